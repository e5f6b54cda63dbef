import PyProof.Rows.All
import Wide.All
import OpenK.AllK
import Wide.FinOn
import PySem.Challenge.RW_ru0005_02
set_option Elab.async false
set_option maxRecDepth 100000
-- part HA
section
open PySem PySem.W PySem.Calls PyProof.Rows
set_option Elab.async false
set_option maxRecDepth 100000
namespace Mine
noncomputable section
abbrev pw : Program := PySem.Challenge.pw_ru0005_02
noncomputable def o11 : Obj := { cls := Value.type "tuple", data := Data.seq #[] }
noncomputable def o12 : Obj := { cls := Value.none, data := Data.fields #[] }
noncomputable def o13 : Obj :=
  { cls := Value.type "code",
    data :=
      Data.fields
        #[Value.str (Str.ofString "<module>") 182, Value.str (Str.ofString "<module>") 183,
          Value.str (Str.ofString "/claim/cut.py") 184, Value.int 1 0, Value.int 0 0, Value.int 0 0, Value.int 0 0,
          Value.int 0 0, Value.ref 11, Value.bool false, Value.int 181 0, Value.ref 12, Value.none, Value.none,
          Value.none, Value.none, Value.int 185 0, Value.int 1 0, Value.str (Str.ofString "/claim/cut.py") 186] }
noncomputable def o14 : Obj :=
  { cls := Value.type "frame",
    slots :=
      #[some (Value.ref 13), some (Value.ref 3), some (Value.ref 3), none,
        some (Value.str (Str.ofString "__main__") 164), none, some (Value.ref 0)] }
noncomputable def h15 (P : Params) : Heap :=
  { objs := { toList := [boot_o_0 P, boot_o_1 P, boot_o_2 P, boot_o_3 P, boot_o_4 P, boot_o_5 P, boot_o_6 P, boot_o_7 P, boot_o_8 P,
            boot_o_9 P, boot_o_10 P, o11, o12, o13, o14] } }
noncomputable def t15 (P : Params) : BT :=
  BT.node (boot_o_0 P)
    (BT.node (boot_o_1 P)
      (BT.node (boot_o_3 P) (BT.node (boot_o_7 P) BT.nil BT.nil) (BT.node o11 BT.nil BT.nil))
      (BT.node (boot_o_5 P) (BT.node (boot_o_9 P) BT.nil BT.nil) (BT.node o13 BT.nil BT.nil)))
    (BT.node (boot_o_2 P)
      (BT.node (boot_o_4 P) (BT.node (boot_o_8 P) BT.nil BT.nil) (BT.node o12 BT.nil BT.nil))
      (BT.node (boot_o_6 P) (BT.node (boot_o_10 P) BT.nil BT.nil) (BT.node o14 BT.nil BT.nil)))
noncomputable def env0 : Env := { scope := pw.main.scope, locals := mainNs, globals := mainNs, cells := [], code := Value.ref 13, frame := some 14 }
noncomputable def body0 : List Stmt := behindTheImports pw
noncomputable def code0 : Code := .body body0 env0
noncomputable def pos0 : Pos := ⟨0, 0, 0, 0⟩
noncomputable def st0 (P : Params) (os : OsState) : Shared := ⟨boot_heap P, #[], boot_drawn, boot_toks, os⟩
noncomputable def st15 (P : Params) (os : OsState) : SharedT := { tree := t15 P, n := 15, life := { }, gens := { toList := [] }, drawn := { }, toks := 187, os := os }
noncomputable def ann0 : Option Value := some (.ref 6)

theorem tw_topGo : @topGo = Fast.tw15667345088766844465 := Fast.te15667345088766844465
theorem tw_topRun : @topRun = Fast.tw14082659384304107361 := Fast.te14082659384304107361
theorem tw_segRun : @segRun = Fast.tw14374325043358763698 := Fast.te14374325043358763698
theorem tw_segRunT : @segRunT = Fast.tw10110043849684766642 := Fast.te10110043849684766642
theorem tw_table : @treeTable = Fast.tw14364793385576792824 := Fast.te14364793385576792824
theorem tw_denote : @denote = Fast.tw11892475500146522536 := Fast.te11892475500146522536

theorem pre0 (w : World) (os : OsState) : topGo treeTable pw w 11 ann0 12 (st0 w.params os) (topStub pw) =
    some (⟨h15 w.params, #[], {}, 187, os⟩, ⟨denote treeTable code0, code0, pos0, [topFrame pos0]⟩) := by
  rw [tw_topGo, tw_table, tw_denote]
  kernel_rfl
theorem block0 (w : World) (os : OsState) : segRun treeTable pw w 11 ann0 1 1 ⟨h15 w.params, #[], {}, 187, os⟩ (blockOf body0 env0 code0 pos0 [topFrame pos0]) =
    some (.next, (st15 w.params os).abs, code0, pos0) := by
  rw [tw_segRun, tw_table]
  kernel_rfl

theorem end_eq (w : World) (s : SharedT) (po : Pos) : topRun treeTable pw w 11 ann0 2 s.abs ⟨doneF .next, code0, po, [topFrame pos0]⟩ = some s.abs := by kernel_rfl
theorem opening_plain : opening pw = plainProg pw.main.scope.names := by kernel_rfl
theorem fence_same (s : Shared) : fenceModules? pw s = some s := by kernel_rfl
theorem open0 : ∀ w : World, (fencedOpening treeTable pw w 30000).map (fun s => (s.heap, s.gens, s.drawn, s.toks)) = some (boot_heap w.params, Array.mk [], boot_drawn, boot_toks) :=
  boot_open opening_plain rfl fence_same
theorem size0 (w : World) : ((boot_heap w.params).isNs mainGlobals, (boot_heap w.params).objs.size, (boot_heap w.params).nsMap mainGlobals "__annotations__") = (true, 11, ann0) := by
  kernel_rfl
end
end Mine
end
-- part HB
section
open PySem PySem.W PySem.Calls PyProof.Rows
set_option Elab.async false
set_option maxRecDepth 100000
namespace Mine
noncomputable section
theorem reads_vars : readsOut PySem.Challenge.rw_ru0005_02.row.prog PySem.Challenge.rw_ru0005_02.row.prog.main.body "vars" = false := by rw [Fast.te2368527892694137696, Fast.te13343964577679436407]; kernel_rfl
theorem reads_dir : readsOut PySem.Challenge.rw_ru0005_02.row.prog PySem.Challenge.rw_ru0005_02.row.prog.main.body "dir" = false := by rw [Fast.te2368527892694137696, Fast.te13343964577679436407]; kernel_rfl
theorem reads_locals : readsOut PySem.Challenge.rw_ru0005_02.row.prog PySem.Challenge.rw_ru0005_02.row.prog.main.body "locals" = false := by rw [Fast.te2368527892694137696, Fast.te13343964577679436407]; kernel_rfl
theorem filter3 {p : Str → Bool} {a b c : Str} (ha : p a = false) (hb : p b = false) (hc : p c = false) : [a, b, c].filter p = [] := by
  simp only [List.filter, ha, hb, hc]
theorem bare0 : (["vars", "dir", "locals"] : List Str).filter (readsOut PySem.Challenge.rw_ru0005_02.row.prog PySem.Challenge.rw_ru0005_02.row.prog.main.body) = [] := filter3 reads_vars reads_dir reads_locals
theorem strict0 : (!(importedModules PySem.Challenge.rw_ru0005_02.row.prog.main.body).all cThrough.contains) = false := by
  rw [R.allR_eq, Fast.te5923862056798008813, Fast.te2368527892694137696, Fast.te3471404346716756564, Fast.sDec_eq, Fast.te17691160309236699985]; kernel_rfl
theorem roads0 : noRoadLSs { strict := false, foot := none, bare := [] } PySem.Challenge.rw_ru0005_02.row.prog.main.body = true := by
  rw [Fast.te8326940854005059898, Fast.te2368527892694137696]; kernel_rfl
theorem said_3 : namesResolve PySem.Challenge.rw_ru0005_02.row.prog = true := by rw [Fast.te8377067652309620493, Fast.te2368527892694137696]; kernel_rfl
theorem said_5 : noRoadLSs { strict := !(importedModules PySem.Challenge.rw_ru0005_02.row.prog.main.body).all cThrough.contains, foot := none, bare := (["vars", "dir", "locals"] : List Str).filter (readsOut PySem.Challenge.rw_ru0005_02.row.prog PySem.Challenge.rw_ru0005_02.row.prog.main.body) } PySem.Challenge.rw_ru0005_02.row.prog.main.body = true := by rw [strict0, bare0]; exact roads0
theorem said_6 : (namesMeet PySem.Challenge.rw_ru0005_02.row.prog PySem.Challenge.rw_ru0005_02.row.prog.main.body fun _ n => attrL n) = true := by rw [Fast.te17119622794617984870, Fast.te2368527892694137696, Fast.te17868728402115742887]; kernel_rfl
theorem said_38 : namesMeet PySem.Challenge.rw_ru0005_02.prog PySem.Challenge.rw_ru0005_02.above (fun _ n => !PySem.Challenge.rw_ru0005_02.own.contains n) = true := by rw [Fast.te17119622794617984870, Fast.te3471404346716756564, Fast.sDec_eq, Fast.te10792542408131684335]; kernel_rfl
theorem said0 : OpenLaw.wellSaid PySem.Challenge.rw_ru0005_02 = true := by
  unfold OpenLaw.wellSaid OpenRow.wellSaid OpenRow.partSaid looksOpen
  repeat' (with_reducible refine look_both ?_ ?_)
  · rw [Fast.te11788848310118352699, Fast.te2368527892694137696]; kernel_rfl
  · rw [Fast.te9807087744658564304, Fast.te2368527892694137696, Fast.te12862048085361865435]; kernel_rfl
  · exact said_3
  · rw [R.allR_eq, Fast.te18344453789297297638, Fast.te2368527892694137696, Fast.te3471404346716756564, Fast.sDec_eq, Fast.te14412699480532031325]; kernel_rfl
  · exact said_5
  · exact said_6
  · rw [Fast.te2368527892694137696]; kernel_rfl
  · rw [Fast.te2368527892694137696]; kernel_rfl
  · rw [Fast.te2368527892694137696, R.allR_eq, Fast.te9706382859710513879]; kernel_rfl
  · rw [R.allR_eq, Fast.te2368527892694137696, Fast.te3471404346716756564, Fast.sDec_eq, Fast.te18344453789297297638, S.strDecS_eq, Fast.te2357444279172408678]; kernel_rfl
  · rw [R.mapR_eq, Fast.te2368527892694137696, Fast.sDec_eq]; kernel_rfl
  · rw [R.allR_eq, Fast.te2368527892694137696, Fast.te4857012375875476094, Fast.named_eq, Fast.te3471404346716756564, Fast.sDec_eq, Fast.te18344453789297297638]; kernel_rfl
  · rw [Fast.te13582783067957832011, Fast.te2368527892694137696]; kernel_rfl
  · rw [Fast.te5318747976498570220, Fast.te2368527892694137696]; kernel_rfl
  · rw [Fast.te5318747976498570220, Fast.te2368527892694137696]; kernel_rfl
  · rw [R.allR_eq, Fast.te2368527892694137696, Fast.te5318747976498570220]; kernel_rfl
  · rw [R.allR_eq, Fast.te2368527892694137696, Fast.te4579403493507170074, R.anyR_eq, Fast.te4274047373036748609]; kernel_rfl
  · rw [R.allR_eq, Fast.te2368527892694137696]; kernel_rfl
  · rw [Fast.te2368527892694137696]; kernel_rfl
  · rw [Fast.te3471404346716756564, Fast.sDec_eq, Fast.te18344453789297297638, Fast.te2368527892694137696]; kernel_rfl
  · rw [Fast.te3471404346716756564, Fast.sDec_eq, Fast.te12749700546528644094, Fast.te2368527892694137696]; kernel_rfl
  · kernel_rfl
  · rw [R.allR_eq, Fast.te10501279942588096481]; kernel_rfl
  · rw [Fast.te8179353310426384613]; kernel_rfl
  · kernel_rfl
  · kernel_rfl
  · rw [Fast.te8326940854005059898, Fast.te797321630700447069, Fast.te9572597257264208301]; kernel_rfl
  · rw [Fast.te9558739934217749035]; kernel_rfl
  · rw [Fast.te16286561074155671207]; kernel_rfl
  · rw [R.allR_eq, Fast.sDec_eq]; kernel_rfl
  · rw [R.allR_eq, Fast.te797321630700447069, Fast.named_eq, Fast.sDec_eq, Fast.te6984425678791042302]; kernel_rfl
  · rw [R.allR_eq, Fast.te17095254045102204799, Fast.te12879404354523853263, Fast.te6984425678791042302]; kernel_rfl
  · rw [R.allR_eq, Fast.te17095254045102204799, Fast.te12879404354523853263, Fast.te6984425678791042302, Fast.te482687673346738481, Fast.sDec_eq]; kernel_rfl
  · rw [Fast.te17119622794617984870, Fast.te3471404346716756564, Fast.sDec_eq, Fast.te9572597257264208301]; kernel_rfl
  · rw [Fast.te3471404346716756564, Fast.sDec_eq, Fast.te10792542408131684335]; kernel_rfl
  · rw [Fast.te7723801398212525404, Fast.sDec_eq, Fast.te10792542408131684335]; kernel_rfl
  · rw [R.allR_eq, Fast.te10792542408131684335, Fast.named_eq]; kernel_rfl
  · exact said_38
  · rw [Fast.te17119622794617984870, Fast.sDec_eq]; kernel_rfl
end
end Mine
end
-- part HC
section
open PySem PySem.W PySem.Calls PyProof.Rows
set_option Elab.async false
set_option maxRecDepth 100000
namespace Mine
noncomputable section
noncomputable def q0 : Program := view pw [34]
noncomputable def loose0 : List Str := ["_wall", "EOF", "spaceCharacters", "asciiLetters", "digits", "hexDigits", "asciiLower", "entities", "replacementCharacters", "tokenTypes", "tagTokenTypes",
  "Text", "_is_invalid", "HTMLUnicodeInputStream", "bisect_left", "Trie", "entitiesTrie", "HTMLTokenizer", "_law_NAME", "_law_SIGNS", "_law_GAPS", "_law_JUNK", "_law_BEHIND", "_law_ODD",
  "_law_take", "_law_sized", "_law_clean", "_law_identifier", "_law_doctype"]
noncomputable def Xt0 (s : Shared) : Bool := xlAt q0 [] s && recOk [] s
theorem mod0 : TablesWhole.wModule TablesWhole.holds pw.main = true := by
  unfold TablesWhole.holds
  rw [Fast.te6116379765354995101, Fast.te15985051520779696433]
  kernel_rfl
theorem whole0 : Program.tablesWhole pw = true := by
  unfold Program.tablesWhole TablesWhole.wProgram
  rw [mod0]
  kernel_rfl
theorem head_of {r : OpenRow} {d : DefRec} {kwd : List (Str × Expr)} {N : Nat} (H : Hook) (hp' : r.prog = pw) (hrec : r.records = [])
    (hdef : defOf q0 r.name = some (d, kwd)) (hp : r.prog.theDef r.name = some (d.params, d.body, d.scope)) (hk : kwWritten? d.params.kwonlyargs d.params.kw_defaults = some kwd)
    (hwr : (!r.writes || r.records.isEmpty) = true)
    (k1 : r.wellSaid = true) (ok : (chainsOk q0 && opensWell r.prog && (frees r.toRowW && r.within.isEmpty)) = true) (hb : r.prog.bare) (hw : r.toRowW.promised)
    (h : LeftO pw q0 loose0 Xt0 H.obs H.val N ∧ WalkO q0 loose0 (XL q0 []) H.says r.toRowW d kwd fun f vs => PySem.call f vs) : r.Holds :=
  holds_open (q := q0) (loose := loose0) (Xt := Xt0) (XP := XL q0 []) (Yf := H.obs) (Ya := H.val) (YP := H.says) (N := N) (hp' ▸ h.1) H.of H.keeps
    (fun s e => xl_of s (Bool.and_eq_true_iff.mp e).1) XL.keeps hdef hp hk (fun s e => hrec ▸ recFacts_of (Bool.and_eq_true_iff.mp e).2) hwr k1 ok hb hw h.2
end
local macro_rules | `(tactic| o_law) => `(tactic| refine holds_law said0 fun said => ?_)
local macro_rules | `(tactic| o_head $H) => `(tactic| (
  refine head_of (N := 30000) $H rfl rfl (by rfl) (by rfl) (by rfl) (by rfl) (by assumption) (by decide +kernel) ⟨rfl, rfl, rfl, rfl, rfl, whole0⟩ ?hw ?hc))
set_option maxHeartbeats 8000000 in
open_top hd for PySem.Challenge.rw_ru0005_02
end Mine
end
-- part HD
section
open PySem PySem.W PySem.Calls PyProof.Rows
set_option Elab.async false
set_option maxRecDepth 100000
namespace Mine
noncomputable section

/-- the object of an address in a written part that is sorted by address -/
noncomputable def kFind (a : Nat) (l : Frag) : Option Obj :=
  @List.rec (Addr × Obj) (fun _ => Option Obj) none (fun p _ ih => match Nat.beq p.1 a with
    | true => some p.2
    | false => match Nat.blt a p.1 with
      | true => none
      | false => ih) l
noncomputable def kc0 (P : Params) : Frag := (hd.heap_1 P).drop 0
noncomputable def kc1 (P : Params) : Frag := (hd.heap_1 P).drop 46
noncomputable def kc2 (P : Params) : Frag := (hd.heap_1 P).drop 92
noncomputable def kc3 (P : Params) : Frag := (hd.heap_1 P).drop 138
noncomputable def kc4 (P : Params) : Frag := (hd.heap_1 P).drop 184
noncomputable def kc5 (P : Params) : Frag := (hd.heap_1 P).drop 230
noncomputable def kc6 (P : Params) : Frag := (hd.heap_1 P).drop 276
noncomputable def kc7 (P : Params) : Frag := (hd.heap_1 P).drop 322
noncomputable def kc8 (P : Params) : Frag := (hd.heap_1 P).drop 368
noncomputable def kc9 (P : Params) : Frag := (hd.heap_1 P).drop 414
noncomputable def kc10 (P : Params) : Frag := (hd.heap_1 P).drop 460
noncomputable def kc11 (P : Params) : Frag := (hd.heap_1 P).drop 506
/-- the written object of an address, by chunks of 46 -/
noncomputable def kAt (P : Params) (a : Nat) : Option Obj := match Nat.blt a 101 with
  | true => kFind a (kc0 P)
  | false => match Nat.blt a 164 with
    | true => kFind a (kc1 P)
    | false => match Nat.blt a 232 with
      | true => kFind a (kc2 P)
      | false => match Nat.blt a 310 with
        | true => kFind a (kc3 P)
        | false => match Nat.blt a 374 with
          | true => kFind a (kc4 P)
          | false => match Nat.blt a 438 with
            | true => kFind a (kc5 P)
            | false => match Nat.blt a 503 with
              | true => kFind a (kc6 P)
              | false => match Nat.blt a 567 with
                | true => kFind a (kc7 P)
                | false => match Nat.blt a 632 with
                  | true => kFind a (kc8 P)
                  | false => match Nat.blt a 696 with
                    | true => kFind a (kc9 P)
                    | false => match Nat.blt a 760 with
                      | true => kFind a (kc10 P)
                      | false => kFind a (kc11 P)
noncomputable def mkT (f : Nat → Obj) (n : Nat) : Nat → Nat → Nat → BT
  | 0, _, _ => .nil
  | k + 1, a, b => match Nat.blt b n with
    | true => .node (f b) (mkT f n k (2 * a) (a + b)) (mkT f n k (2 * a) (2 * a + b))
    | false => .nil
/-- the text's names: as at the end, the first j of them, and __name__ as it stands then -/
noncomputable def mid3 (P : Params) (nm : Value) (j : Nat) : Obj := match kFind 3 (hd.heap_1 P) with
  | some ⟨c, d, .dict es _, sl⟩ => match es.toList with
    | e :: r => ⟨c, d, .dict ⟨({ e with val := nm } :: r).take j⟩ j, sl⟩
    | [] => default
  | _ => default
noncomputable def mid12 (j : Nat) : Obj := { cls := Value.none, data := Data.fields ⟨([Value.int 1 0, Value.int 0 0, Value.ref 20, Value.int 10 0, Value.int 0 0, Value.ref 41, Value.int 17 0, Value.int 0 0, Value.ref 55, Value.int 27 0, Value.int 0 0, Value.ref 83, Value.int 29 0, Value.int 0 0, Value.ref 90, Value.int 133 0, Value.int 0 0, Value.ref 177, Value.int 143 0, Value.int 0 0, Value.ref 184, Value.int 181 0, Value.int 0 0, Value.ref 252, Value.int 1187 0, Value.int 0 0, Value.ref 774, Value.int 1189 0, Value.int 0 0, Value.ref 781, Value.int 1191 0, Value.int 0 0, Value.ref 788, Value.int 1194 0, Value.int 0 0, Value.ref 795, Value.int 1196 0, Value.int 0 0, Value.ref 802, Value.int 1202 0, Value.int 0 0, Value.ref 809, Value.int 1209 0, Value.int 0 0, Value.ref 814, Value.int 1215 0, Value.int 0 0, Value.ref 819, Value.int 1250 0, Value.int 0 0, Value.ref 824] : List Value).take j⟩ }
noncomputable def midLeaf (P : Params) (nm : Value) (j3 j12 : Nat) (g : Nat → Obj) (a : Nat) : Obj := match Nat.blt a 15 with
  | true => ([boot_o_0 P, boot_o_1 P, boot_o_2 P, mid3 P nm j3, boot_o_4 P, boot_o_5 P, boot_o_6 P, boot_o_7 P, boot_o_8 P, boot_o_9 P, boot_o_10 P, o11, mid12 j12, o13, o14] : List Obj).getD a default
  | false => match kAt P a with
    | some o => o
    | none => g a
/-- the state at the end of a statement: the objects of K, and for the unreached ones anything (g) -/
noncomputable def midS (nm : Value) (j3 j12 n toks : Nat) (P : Params) (os : OsState) (g : Nat → Obj) : SharedT :=
  { tree := mkT (midLeaf P nm j3 j12 g) n 12 1 0, n := n, life := { }, gens := { toList := [] }, drawn := { }, toks := toks, os := os }
noncomputable def gOf (r : Flow × SharedT × Code × Pos) (a : Nat) : Obj := (r.2.1.tree.get a).getD default
/-- statements i .. i + k from a state -/
noncomputable def seg (w : World) (i k : Nat) (S : SharedT) (pos : Pos) : Option (Flow × SharedT × Code × Pos) :=
  segRunT treeTable pw w 11 ann0 1 3000 S (piecesOf ((body0.drop i).take k) env0 code0 pos [topFrame pos0])
noncomputable def SegTo (X : Option (Flow × SharedT × Code × Pos)) (S : (Nat → Obj) → SharedT) (pos : Pos) : Prop :=
  X.isSome = true ∧ X.map id = X.map fun r => (.next, S (gOf r), code0, pos)
theorem SegTo.ends {X : Option (Flow × SharedT × Code × Pos)} {S : (Nat → Obj) → SharedT} {pos : Pos} (h : SegTo X S pos) : ∃ g, X = some (.next, S g, code0, pos) := by
  obtain ⟨r, hr⟩ := Option.isSome_iff_exists.mp h.1
  have h2 := h.2
  rw [hr] at h2
  exact ⟨gOf r, hr.trans h2⟩
theorem seg_on {w : World} {i k N : Nat} {S S' : SharedT} {pos p' : Pos} {r : Shared} (h : seg w i k S pos = some (.next, S', code0, p'))
    (rest : topRun treeTable pw w 11 ann0 N S'.abs (restOf (body0.drop (i + k)) env0 code0 p' [topFrame pos0]) = some r) :
    topRun treeTable pw w 11 ann0 (3000 + N) S.abs (restOf (body0.drop i) env0 code0 pos [topFrame pos0]) = some r := by
  have := piece_app (segRun_of h) rest
  rwa [← List.drop_drop, List.take_append_drop] at this
noncomputable def nm0 : Value := Value.str (Str.ofString "html5lib.constants") 194
noncomputable def ps0 : Pos := ⟨7, 0, 7, 12⟩
abbrev S0 := midS nm0 13 3 28 257
theorem seg0_f (w : World) (os : OsState) : SegTo (seg (w.withFollow "special-get-raises" false) 0 5 (st15 (w.withFollow "special-get-raises" false).params os) pos0) (S0 (w.withFollow "special-get-raises" false).params os) ps0 := by
  unfold SegTo seg
  rw [tw_segRunT, tw_table]
  exact ⟨by kernel_rfl, by kernel_rfl⟩
theorem seg0_t (w : World) (os : OsState) : SegTo (seg (w.withFollow "special-get-raises" true) 0 5 (st15 (w.withFollow "special-get-raises" true).params os) pos0) (S0 (w.withFollow "special-get-raises" true).params os) ps0 := by
  unfold SegTo seg
  rw [tw_segRunT, tw_table]
  exact ⟨by kernel_rfl, by kernel_rfl⟩
theorem seg0 (w : World) (os : OsState) : ∃ g', seg w 0 5 (st15 w.params os) pos0 = some (.next, S0 w.params os g', code0, ps0) :=
  SegTo.ends (byRow2 (P := fun w => SegTo (seg w 0 5 (st15 w.params os) pos0) (S0 w.params os) ps0) "special-get-raises" (fun w => seg0_f w os) (fun w => seg0_t w os) w)
noncomputable def nm1 : Value := Value.str (Str.ofString "html5lib.constants") 194
noncomputable def ps1 : Pos := ⟨12, 0, 12, 8⟩
abbrev S1 := midS nm1 17 6 46 429
theorem seg1_f (w : World) (os : OsState) (g : Nat → Obj) : SegTo (seg (w.withFollow "special-get-raises" false) 5 4 (S0 (w.withFollow "special-get-raises" false).params os g) ps0) (S1 (w.withFollow "special-get-raises" false).params os) ps1 := by
  unfold SegTo seg
  rw [tw_segRunT, tw_table]
  exact ⟨by kernel_rfl, by kernel_rfl⟩
theorem seg1_t (w : World) (os : OsState) (g : Nat → Obj) : SegTo (seg (w.withFollow "special-get-raises" true) 5 4 (S0 (w.withFollow "special-get-raises" true).params os g) ps0) (S1 (w.withFollow "special-get-raises" true).params os) ps1 := by
  unfold SegTo seg
  rw [tw_segRunT, tw_table]
  exact ⟨by kernel_rfl, by kernel_rfl⟩
theorem seg1 (w : World) (os : OsState) (g : Nat → Obj) : ∃ g', seg w 5 4 (S0 w.params os g) ps0 = some (.next, S1 w.params os g', code0, ps1) :=
  SegTo.ends (byRow2 (P := fun w => SegTo (seg w 5 4 (S0 w.params os g) ps0) (S1 w.params os) ps1) "special-get-raises" (fun w => seg1_f w os g) (fun w => seg1_t w os g) w)
noncomputable def nm2 : Value := Value.str (Str.ofString "html5lib._inputstream") 564
noncomputable def ps2 : Pos := ⟨16, 0, 16, 8⟩
abbrev S2 := midS nm2 20 6 50 566
theorem seg2_f (w : World) (os : OsState) (g : Nat → Obj) : SegTo (seg (w.withFollow "special-get-raises" false) 9 4 (S1 (w.withFollow "special-get-raises" false).params os g) ps1) (S2 (w.withFollow "special-get-raises" false).params os) ps2 := by
  unfold SegTo seg
  rw [tw_segRunT, tw_table]
  exact ⟨by kernel_rfl, by kernel_rfl⟩
theorem seg2_t (w : World) (os : OsState) (g : Nat → Obj) : SegTo (seg (w.withFollow "special-get-raises" true) 9 4 (S1 (w.withFollow "special-get-raises" true).params os g) ps1) (S2 (w.withFollow "special-get-raises" true).params os) ps2 := by
  unfold SegTo seg
  rw [tw_segRunT, tw_table]
  exact ⟨by kernel_rfl, by kernel_rfl⟩
theorem seg2 (w : World) (os : OsState) (g : Nat → Obj) : ∃ g', seg w 9 4 (S1 w.params os g) ps1 = some (.next, S2 w.params os g', code0, ps2) :=
  SegTo.ends (byRow2 (P := fun w => SegTo (seg w 9 4 (S1 w.params os g) ps1) (S2 w.params os) ps2) "special-get-raises" (fun w => seg2_f w os g) (fun w => seg2_t w os g) w)
noncomputable def nm3 : Value := Value.str (Str.ofString "html5lib._tokenizer") 825
noncomputable def ps3 : Pos := ⟨179, 0, 179, 8⟩
abbrev S3 := midS nm3 25 21 235 827
theorem seg3_w (w : World) (os : OsState) (g : Nat → Obj) : SegTo (seg w 13 7 (S2 w.params os g) ps2) (S3 w.params os) ps3 := by
  unfold SegTo seg
  rw [tw_segRunT, tw_table]
  exact ⟨by kernel_rfl, by kernel_rfl⟩
theorem seg3 (w : World) (os : OsState) (g : Nat → Obj) : ∃ g', seg w 13 7 (S2 w.params os g) ps2 = some (.next, S3 w.params os g', code0, ps3) := SegTo.ends (seg3_w w os g)
noncomputable def nm4 : Value := Value.str (Str.ofString "html5lib._tokenizer") 825
noncomputable def ps4 : Pos := ⟨180, 0, 180, 12⟩
abbrev S4 := midS nm4 26 21 247 842
theorem seg4_f (w : World) (os : OsState) (g : Nat → Obj) : SegTo (seg (w.withFollow "special-get-raises" false) 20 1 (S3 (w.withFollow "special-get-raises" false).params os g) ps3) (S4 (w.withFollow "special-get-raises" false).params os) ps4 := by
  unfold SegTo seg
  rw [tw_segRunT, tw_table]
  exact ⟨by kernel_rfl, by kernel_rfl⟩
theorem seg4_t (w : World) (os : OsState) (g : Nat → Obj) : SegTo (seg (w.withFollow "special-get-raises" true) 20 1 (S3 (w.withFollow "special-get-raises" true).params os g) ps3) (S4 (w.withFollow "special-get-raises" true).params os) ps4 := by
  unfold SegTo seg
  rw [tw_segRunT, tw_table]
  exact ⟨by kernel_rfl, by kernel_rfl⟩
theorem seg4 (w : World) (os : OsState) (g : Nat → Obj) : ∃ g', seg w 20 1 (S3 w.params os g) ps3 = some (.next, S4 w.params os g', code0, ps4) :=
  SegTo.ends (byRow2 (P := fun w => SegTo (seg w 20 1 (S3 w.params os g) ps3) (S4 w.params os) ps4) "special-get-raises" (fun w => seg4_f w os g) (fun w => seg4_t w os g) w)
noncomputable def nm5 : Value := Value.str (Str.ofString "html5lib._tokenizer") 825
noncomputable def ps5 : Pos := ⟨181, 0, 1183, 19⟩
abbrev S5 := midS nm5 27 24 767 1442
theorem seg5_w (w : World) (os : OsState) (g : Nat → Obj) : SegTo (seg w 21 1 (S4 w.params os g) ps4) (S5 w.params os) ps5 := by
  unfold SegTo seg
  rw [tw_segRunT, tw_table]
  exact ⟨by kernel_rfl, by kernel_rfl⟩
theorem seg5 (w : World) (os : OsState) (g : Nat → Obj) : ∃ g', seg w 21 1 (S4 w.params os g) ps4 = some (.next, S5 w.params os g', code0, ps5) := SegTo.ends (seg5_w w os g)
end
end Mine
end
-- part HE
section
open PySem PySem.W PySem.Calls PyProof.Rows
set_option Elab.async false
set_option maxRecDepth 100000
namespace Mine
noncomputable section
theorem tw_openSeen : @openSeen = Fast.tw4187177175401517315 := Fast.te4187177175401517315
noncomputable def kGet (s : SharedT) (a : Addr) : Option Obj := match Nat.blt a s.n with
  | true => alive ((s.tree.get a).getD default)
  | false => none
theorem kGet_eq (s : SharedT) (a : Addr) : s.abs.heap.get? a = kGet s a := by
  unfold kGet
  show (absHeap s.tree s.n s.life).get? a = _
  unfold Heap.get?
  rw [absHeap_at]
  by_cases h : a < s.n
  · rw [if_pos h, show Nat.blt a s.n = true from Nat.ble_eq.mpr h]
    dsimp only
    cases h' : (s.tree.get a).getD default with
    | mk c d dt sl => cases dt <;> rfl
  · rw [if_neg h, show Nat.blt a s.n = false from by cases e : Nat.blt a s.n with | false => rfl | true => exact absurd (Nat.ble_eq.mp e) h]
theorem seg_looks (w : World) (g : Nat → Obj) (os : OsState) : (seg w 22 13 (S5 w.params os g) ps5).map (fun r =>
      (r.1, r.2.2.1, (staticsOk (importedModules pw.main.body) (boot_heap w.params) r.2.1.abs.heap && namesBound pw r.2.1.abs.heap && gensDone r.2.1.abs && laidKept (boot_heap w.params) r.2.1.abs.heap),
        openSeen q0 loose0 (importedModules pw.main.body) Xt0 true r.2.1.abs, ((hd.heap_1 w.params).map (·.1)).map (kGet r.2.1))) =
    some (.next, code0, true, openGood q0 loose0, (hd.heap_1 w.params).map fun p => some p.2) := by
  unfold seg
  rw [tw_segRunT, tw_table, tw_openSeen]
  kernel_rfl
theorem body_end : body0.drop (22 + 13) = [] := by kernel_rfl
theorem left0 {as : List Addr} {e : ∀ P, as = (hd.heap_1 P).map (·.1)} : LeftO pw q0 loose0 Xt0 (kHook hd.heap_1 as e).obs (kHook hd.heap_1 as e).val 30000 := fun w => by
  obtain ⟨⟨h, gs, d, k, os⟩, e0, e'⟩ := Option.map_eq_some_iff.mp (open0 w)
  obtain ⟨rfl, rfl, rfl, rfl⟩ : h = boot_heap w.params ∧ gs = Array.mk [] ∧ d = boot_drawn ∧ k = boot_toks := by simpa using e'
  obtain ⟨z1, z2, z3⟩ : _ ∧ _ ∧ _ := by simpa only [Prod.mk.injEq] using size0 w
  obtain ⟨g0, a0⟩ := seg0 w os
  obtain ⟨g1, a1⟩ := seg1 w os g0
  obtain ⟨g2, a2⟩ := seg2 w os g1
  obtain ⟨g3, a3⟩ := seg3 w os g2
  obtain ⟨g4, a4⟩ := seg4 w os g3
  obtain ⟨g5, a5⟩ := seg5 w os g4
  obtain ⟨⟨f, sT, c, po⟩, hr, hl⟩ := Option.map_eq_some_iff.mp (seg_looks w g5 os)
  obtain ⟨rfl, rfl, l1, l2, l3⟩ : f = .next ∧ c = code0 ∧ _ ∧ _ ∧ _ := by simpa only [Prod.mk.injEq] using hl
  have b6 := seg_on hr (by rw [body_end]; exact piece_nil (end_eq w sT po))
  have b5 := seg_on a5 b6
  have b4 := seg_on a4 b5
  have b3 := seg_on a3 b4
  have b2 := seg_on a2 b3
  have b1 := seg_on a1 b2
  have b0 := seg_on a0 b1
  have r2 := piece_block (block0 w os) b0
  have r3 := go_top (pre0 w os) r2
  have r5 := topRun_mono (30000 - (12 + (1 + (3000 + (3000 + (3000 + (3000 + (3000 + (3000 + (3000 + 2)))))))))) _ _ _ _ r3
  have r6 : topRun treeTable pw w 11 ann0 30000 ⟨boot_heap w.params, Array.mk [], boot_drawn, boot_toks, os⟩ (topStub pw) = some sT.abs := r5
  have t : topFrom treeTable pw w 30000 ⟨boot_heap w.params, Array.mk [], boot_drawn, boot_toks, os⟩ = some sT.abs := by
    unfold topFrom
    dsimp only
    rw [z1, z2, z3, show (true && (Array.mk ([] : List GenState)).size == 0) = true from rfl, r6]
    show (match staticsOk (importedModules pw.main.body) (boot_heap w.params) sT.abs.heap && namesBound pw sT.abs.heap && gensDone sT.abs && laidKept (boot_heap w.params) sT.abs.heap with | true => _ | false => _) = _
    rw [l1]
  unfold openEnds
  rw [e0]
  show (topFrom treeTable pw w 30000 _).map _ = _
  rw [t]
  refine congrArg some (Prod.ext l2 ?_)
  show as.map sT.abs.heap.get? = (hd.heap_1 w.params).map fun p => some p.2
  rw [← l3, ← e w.params]
  exact List.map_congr_left fun a _ => kGet_eq sT a
end
end Mine
end
-- part LB
section
open PySem PySem.W PySem.Calls PyProof.Rows
set_option Elab.async false
set_option maxRecDepth 100000
namespace Mine
noncomputable section


structure Room (A : Around) (n : Nat) : Prop where
  depth : A.depth + n ≤ 900
  units : A.units + 4 * n ≤ 4000
  handled : A.handled = none

theorem Room.deeper {A : Around} {n : Nat} {env : Env} (h : Room A (n + 1)) : Room (A.deeper env) n :=
  ⟨by rw [depth_deeper]; have := h.depth; omega, by rw [units_deeper]; have := h.units; omega, h.handled⟩
theorem Room.lt {A : Around} {n : Nat} (h : Room A n) : A.depth < recursionLimit := by
  have := h.depth; show A.depth < 1000; omega

section
variable {prog : Program} {w : World} {A : Around} {s : Shared} {h₀ : Heap} {L : Addr} {m : Str → Option Value} {news : List (Addr × Obj)} {K : Frag}
  {R : Result → Shared → Prop} {name qual : Str} {params : Arguments} {body : List Stmt} {scope : Scope} {dV kV doc pm cdv ct oc : Value} {an od : Option Addr} {osl : Array (Option Value)} {f : Addr} {args : Args} {binds : List (Str × Value)}
  {p : Program} {loose : List Str} {mg mb : Str → Option Value}

theorem call_M (hroom : A.depth < recursionLimit) (F : Fr h₀ L s.heap m) (N : News h₀ L s.heap news) (X : K.In h₀) (T : TopRead p loose mg mb h₀)
    (ho : K.lookup f = some ⟨oc, od, .func (fnOf name qual params body scope dV kV doc pm an cdv ct), osl⟩) (hcd : codeIn K cdv qual = true)
    (hbind : BindsTo s (fnOf name qual params body scope dV kV doc pm an cdv ct) args binds) (hloc : ∀ y ∈ binds, scope.names.lookup y.1 = some .local)
    (h : ∀ g L' h₁, Fr g L' h₁ (fun y => binds.reverse.lookup y) → News g L' h₁ news → K.In g → TopRead p loose mg mb g → (∀ p ∈ news, p.1 < L') →
      wpAny (model prog w) (A.deeper (envOf qual scope L' f cdv)) (execs body (envOf qual scope L' f cdv))
        (fun fl s' => LeaveK h₀ L m g R (match fl with | .ret v => v | _ => .none) s') (fun _ _ => False)
        { s with heap := h₁, toks := s.toks + binds.length })
    (hcell : ∀ x ∈ scope.names, x.2 ≠ .cell) (hco : scope.isCoroutine = false := by rfl) (hgen : scope.isGenerator = false := by rfl) (hk : scope.kind = .function := by rfl) :
    codeAny (model prog w) A (.call (.ref f) args) R s := by
  have XS := X.keeps F.keep
  refine codeAny_call_def (fd := fnOf name qual params body scope dV kV doc pm an cdv ct) (body := body) (binds := binds) hroom (XS _ _ ho) rfl (T.nolimit.keeps F.keep) (codeRec_of XS hcd) rfl hbind hcell hloc (fun h₁ hns hk₁ => ?_) hco hgen hk
  have nm : ∀ b o, h₀.get? b = some o → b ∉ news.map (·.1) := fun b o e q => by
    obtain ⟨p, hp, rfl⟩ := List.mem_map.mp q
    rw [(N p hp).2.2] at e; cases e
  have st : h₀.StaysIn (hideAll s.heap (news.map (·.1))) := fun b o e => hideAll_get _ (F.keep b o e) (nm b o e)
  obtain ⟨oL, es, ep, hL, hLd, hLk, hLf⟩ := F.ns
  have nL : L ∉ news.map (·.1) := fun q => by
    obtain ⟨p, hp, e⟩ := List.mem_map.mp q
    exact (N p hp).2.1 e
  have hLg := hideAll_get (news.map (·.1)) hL nL
  refine wpAny_mono (h _ s.heap.objs.size h₁ ⟨hns, fun b o e => hk₁ b o (of_hideAll _ e), Nat.le_of_eq (hideAll_size _ _)⟩
    (fun p hp => ⟨hk₁ _ _ (N p hp).1, Nat.ne_of_lt (Heap.lt_size (N p hp).1), hideAll_none _ (List.mem_map_of_mem hp)⟩) (X.keeps st) (T.keeps st) (fun p hp => Heap.lt_size (N p hp).1)) (fun fl s' hl => ?_) fun _ _ y => y.elim
  obtain ⟨L', m', news', F', N', k⟩ := hl
  refine k ⟨⟨oL, es, ep, F'.keep L oL hLg, hLd, hLk, hLf⟩, fun b o e => F'.keep b o (st b o e), F.above⟩ fun p hp => ⟨(N' p hp).1, fun q => ?_, ?_⟩
  · have := (N' p hp).2.2; rw [q, hLg] at this; cases this
  · cases q : h₀.get? p.1 with
    | none => rfl
    | some o => have := (N' p hp).2.2; rw [st _ _ q] at this; cases this
end


end
end Mine
end
-- part LC
section
open PySem PySem.W PySem.Calls PyProof.Rows
set_option Elab.async false
set_option maxRecDepth 100000
namespace Mine
noncomputable section
noncomputable def ent (P : Params) (k : String) (t : Tok) (v : Value) : DictEntry := ⟨PyData.keyHash P (Str.ofString k), .str (Str.ofString k) t, v⟩
structure SD where
  (rce nl tx : Value) (chunk : Str) (ct : Tok) (size : Int) (szt : Tok) (off : Int) (ot : Tok) (errs pl pc bc : Value)
noncomputable def sE (P : Params) (T : Nat → Tok) (d : SD) : List DictEntry := [ent P "reportCharacterErrors" (T 0) d.rce, ent P "newLines" (T 1) d.nl, ent P "dataStream" (T 2) d.tx, ent P "chunk" (T 3) (.str d.chunk d.ct), ent P "chunkSize" (T 4) (.int d.size d.szt), ent P "chunkOffset" (T 5) (.int d.off d.ot), ent P "errors" (T 6) d.errs, ent P "prevNumLines" (T 7) d.pl, ent P "prevNumCols" (T 8) d.pc, ent P "_bufferedCharacter" (T 9) d.bc]
theorem sE_off (P T d) : getL "chunkOffset" (sE P T d) = some (some (.int d.off d.ot)) := by kernel_rfl
theorem sE_size (P T d) : getL "chunkSize" (sE P T d) = some (some (.int d.size d.szt)) := by kernel_rfl
theorem sE_chunk (P T d) : getL "chunk" (sE P T d) = some (some (.str d.chunk d.ct)) := by kernel_rfl
theorem sE_setoff (P T d v u k n) : (putL "chunkOffset" (PyData.keyHash P "chunkOffset") (.str "chunkOffset" k) (.int v u) (sE P T d), putN "chunkOffset" (sE P T d) n) = (sE P T {d with off := v, ot := u}, n) := by kernel_rfl

section
variable {P : Params}
/-- what is asked of the class of the stream, once -/
theorem cs_dict : hasDictIn (Mine.hd.heap_1 P) 166 = true := by k_is
theorem cs_get_off : plainGet (Mine.hd.heap_1 P) 166 "chunkOffset" = true := by k_is
theorem cs_get (n : Str) : plainGet (Mine.hd.heap_1 P) 166 n = true := cs_get_off
theorem cs_over : plainOver (Mine.hd.heap_1 P) 166 = true := by k_is
theorem cs_set : findIn (Mine.hd.heap_1 P) (.ref 166) "__setattr__" = some (some (.builtin "object.__setattr__")) := by k_is
theorem cs_off : findIn (Mine.hd.heap_1 P) (.ref 166) "chunkOffset" = some none := by k_is
theorem cs_size : findIn (Mine.hd.heap_1 P) (.ref 166) "chunkSize" = some none := by k_is
theorem cs_chunk : findIn (Mine.hd.heap_1 P) (.ref 166) "chunk" = some none := by k_is
theorem no_none : noGet (Mine.hd.heap_1 P) none = true := by k_is
theorem cs_toff : takerIn (Mine.hd.heap_1 P) 166 "chunkOffset" = some none := by k_is
end

section
variable {prog : Program} {w : World} {A : Around} {E : Value → Shared → Prop} {s : Shared} {h₀ : Heap} {L a : Addr} {m : Str → Option Value} {news news' : List (Addr × Obj)}
  {R : Result → Shared → Prop} {p : Program} {loose : List Str} {mg mb : Str → Option Value} {cn : Str} {cs : Scope} {cd : Value}

/-- the value of a field of a local's object -/
theorem fld {x nm : Str} {px pp : Pos} {C o dx : Addr} {es : List DictEntry} {n : Nat} {v : Value} {Q : Value → Shared → Prop} (F : Fr h₀ L s.heap m) (X : (Mine.hd.heap_1 w.params).In h₀) (N : News h₀ L s.heap news)
    (hx : m x = some (.ref o)) (h1 : (o, instObj C dx) ∈ news) (h2 : (dx, dictOf es n) ∈ news)
    (hg : plainGet (Mine.hd.heap_1 w.params) C nm = true) (hh : hasDictIn (Mine.hd.heap_1 w.params) C = true) (ha : findIn (Mine.hd.heap_1 w.params) (.ref C) nm = some none)
    (hl : getL nm es = some (some v)) (hv : handedIn v = true) (h : Q v { s with toks := s.toks + 1 })
    (hk : cs.kind = .function := by rfl) (hy : (envOf cn cs L a cd).kindOf x = some .local := by rfl) (hd : (x == ("__debug__" : Str)) = false := by decide) :
    wpAny (model prog w) A (eval (.Attribute (.Name x px) nm pp) (envOf cn cs L a cd)) Q E s :=
  Attribute_Name_ (ld F hx (get_own F X (InstAt.of_news N h1 h2) hg hh ha no_none hl hv h) hk hy hd)


section
variable {st sd : Addr} {T : Nat → Tok} {d : SD} {n : Nat} {x : Str} {px pp : Pos} {Q : Value → Shared → Prop}
theorem s_off (F : Fr h₀ L s.heap m) (X : (Mine.hd.heap_1 w.params).In h₀) (N : News h₀ L s.heap news) (hx : m x = some (.ref st)) (h1 : (st, instObj 166 sd) ∈ news) (h2 : (sd, dictOf (sE w.params T d) n) ∈ news)
    (h : Q (.int d.off d.ot) { s with toks := s.toks + 1 })
    (hk : cs.kind = .function := by rfl) (hy : (envOf cn cs L a cd).kindOf x = some .local := by rfl) (hd : (x == ("__debug__" : Str)) = false := by decide) :
    wpAny (model prog w) A (eval (.Attribute (.Name x px) "chunkOffset" pp) (envOf cn cs L a cd)) Q E s := fld F X N hx h1 h2 (cs_get _) cs_dict cs_off (sE_off _ _ _) rfl h hk hy hd
theorem s_size (F : Fr h₀ L s.heap m) (X : (Mine.hd.heap_1 w.params).In h₀) (N : News h₀ L s.heap news) (hx : m x = some (.ref st)) (h1 : (st, instObj 166 sd) ∈ news) (h2 : (sd, dictOf (sE w.params T d) n) ∈ news)
    (h : Q (.int d.size d.szt) { s with toks := s.toks + 1 })
    (hk : cs.kind = .function := by rfl) (hy : (envOf cn cs L a cd).kindOf x = some .local := by rfl) (hd : (x == ("__debug__" : Str)) = false := by decide) :
    wpAny (model prog w) A (eval (.Attribute (.Name x px) "chunkSize" pp) (envOf cn cs L a cd)) Q E s := fld F X N hx h1 h2 (cs_get _) cs_dict cs_size (sE_size _ _ _) rfl h hk hy hd
theorem s_chunk (F : Fr h₀ L s.heap m) (X : (Mine.hd.heap_1 w.params).In h₀) (N : News h₀ L s.heap news) (hx : m x = some (.ref st)) (h1 : (st, instObj 166 sd) ∈ news) (h2 : (sd, dictOf (sE w.params T d) n) ∈ news)
    (h : Q (.str d.chunk d.ct) { s with toks := s.toks + 1 })
    (hk : cs.kind = .function := by rfl) (hy : (envOf cn cs L a cd).kindOf x = some .local := by rfl) (hd : (x == ("__debug__" : Str)) = false := by decide) :
    wpAny (model prog w) A (eval (.Attribute (.Name x px) "chunk" pp) (envOf cn cs L a cd)) Q E s := fld F X N hx h1 h2 (cs_get _) cs_dict cs_chunk (sE_chunk _ _ _) rfl h hk hy hd
theorem s_setoff {v : Int} {u : Tok} {Q : Unit → Shared → Prop} {news' : Tok → List (Addr × Obj)} (F : Fr h₀ L s.heap m) (X : (Mine.hd.heap_1 w.params).In h₀) (N : News h₀ L s.heap news) (h1 : (st, instObj 166 sd) ∈ news) (h2 : (sd, dictOf (sE w.params T d) n) ∈ news)
    (U : ∀ u, Upd sd (dictOf (sE w.params T d) n) (dictOf (sE w.params T { d with off := v, ot := u }) n) news (news' u))
    (h : ∀ h', Fr h₀ L h' m → News h₀ L h' (news' u) → Q () { s with heap := h', toks := s.toks + 2 }) :
    wpAny (model prog w) A (setAttr (.ref st) "chunkOffset" (.int v u)) Q E s :=
  set_dict F X N (InstAt.of_news N h1 h2) rfl cs_set cs_over cs_toff cs_dict (by rw [sE_off]; rfl) (sE_setoff _ _ _ _ _ _ _) (U u) (Nat.le_of_ble_eq_true rfl) h
end

theorem char_in {st sd : Addr} {T : Nat → Tok} {d : SD} {n c : Nat} {news' : Tok → List (Addr × Obj)} (hA : Room A 1) (F : Fr h₀ L s.heap m) (N : News h₀ L s.heap news) (X : (Mine.hd.heap_1 w.params).In h₀) (T₀ : TopRead p loose mg mb h₀)
    (h1 : (st, instObj 166 sd) ∈ news) (h2 : (sd, dictOf (sE w.params T d) n) ∈ news) (U : ∀ u, Upd sd (dictOf (sE w.params T d) n) (dictOf (sE w.params T { d with off := d.off + 1, ot := u }) n) news (news' u))
    (hlt : d.off < d.size) (h0 : 0 ≤ d.off) (hbig : d.size < 2 ^ 60) (hc : d.chunk.cps[d.off.toNat]? = some c)
    (hR : ∀ u t h' tk, Fr h₀ L h' m → News h₀ L h' (news' u) → R (.ok (.ret (.str ⟨#[c]⟩ t))) { s with heap := h', toks := tk })
  : codeAny (model prog w) A (.call (.ref 133) ⟨[.ref st], []⟩) R s := by
  refine call_M (binds := [("self", .ref st)]) hA.lt F N X T₀ (f := 133) (by k_is) (by k_is) (BindsTo.of_eq rfl) (locs rfl) (fun g L' h₁ F₁ N₁ X₁ T₁ lt => ?_) (by decide)
  refine wpAny_execs_cons (wpAny_If (wpAny_isTrue_Compare1 (s_off F₁ X₁ N₁ rfl h1 h2 (s_size F₁ X₁ N₁ rfl h1 h2 (P.ge_int (wpAny_truthy_bool ?_))))))
  rw [decide_eq_false (by omega)]
  refine wpAny_execs_nil ?_
  refine wpAny_execs_cons (wpAny_Assign_Name (s_off F₁ X₁ N₁ rfl h1 h2 (stN F₁ N₁ fun h₂ F₂ N₂ => ?_)))
  refine wpAny_execs_cons (wpAny_Assign_Name (Subscript_ (s_chunk F₂ X₁ N₂ rfl h1 h2 (ld F₂ rfl ?_))))
  refine subscriptTail_builtin (typeIs_str _ _ _) PySem.F.slot_str_getitem.lookup (P.getItem_str (c := c) ?_ ?_ ?_)
  · simp only [Bool.or_eq_false_iff, decide_eq_false_iff_not]; omega
  · have hl : d.off.toNat < d.chunk.cps.size := (Array.getElem?_eq_some_iff.mp hc).1
    have hl' : d.off.toNat < d.chunk.length := hl
    have e : seqIndex? d.off d.chunk.length = some d.off.toNat := by
      have q1 : ¬ d.off < 0 := by omega
      have q2 : (decide (0 ≤ d.off) && decide (d.off < (d.chunk.length : Int))) = true := by
        rw [decide_eq_true h0, decide_eq_true (by omega)]; rfl
      show (if (decide (0 ≤ (if d.off < 0 then d.off + (d.chunk.length : Int) else d.off)) && decide ((if d.off < 0 then d.off + (d.chunk.length : Int) else d.off) < (d.chunk.length : Int))) = true then some (if d.off < 0 then d.off + (d.chunk.length : Int) else d.off).toNat else none) = _
      rw [if_neg q1, if_pos q2]
    rw [e]; exact hc
  refine stN F₂ N₂ fun h₃ F₃ N₃ => ?_
  refine wpAny_execs_cons (plainObj_wpAny_Assign_Attribute (wpAny_BinOp (ld F₃ rfl (wpAny_Constant_int (PyProof.Rows.add_int (ld F₃ rfl ?_))))))
  refine s_setoff (news' := news') F₃ X₁ N₃ h1 h2 U fun h₄ F₄ N₄ => ?_
  refine wpAny_execs_cons (wpAny_Return_some (ld F₄ rfl ?_))
  exact leaveK_ F₄ N₄ fun F₅ N₅ => hR _ _ _ _ F₅ N₅
end
end
end Mine
end
-- part LD
section
open PySem PySem.W PySem.Calls PyProof.Rows
set_option Elab.async false
set_option maxRecDepth 100000
namespace Mine
noncomputable section

structure Ld (h₀ : Heap) (L : Addr) (h : Heap) (l : List (Addr × Obj)) : Prop where
  N : News h₀ L h l
  nd : (l.map (·.1)).Nodup

structure Cx where
  (r dr st sd q tk : Addr) (TR TS : Nat → Tok) (lf : Value)
structure Dy where
  (stv : Value) (nr : Nat) (sd : SD) (ns : Nat) (vals : Array Value) (nq : Nat) (ot : Obj)

noncomputable def rE (P : Params) (T : Nat → Tok) (st : Addr) (lf stv cur : Value) (q : Addr) : List DictEntry :=
  [ent P "stream" (T 0) (.ref st), ent P "parser" (T 1) .none, ent P "escapeFlag" (T 2) (.bool false), ent P "lastFourChars" (T 3) lf, ent P "state" (T 4) stv,
   ent P "escape" (T 5) (.bool false), ent P "currentToken" (T 6) cur, ent P "tokenQueue" (T 7) (.ref q)]
noncomputable def led (P : Params) (c : Cx) (d : Dy) : List (Addr × Obj) :=
  [(c.dr, dictOf (rE P c.TR c.st c.lf d.stv (.ref c.tk) c.q) d.nr), (c.sd, dictOf (sE P c.TS d.sd) d.ns), (c.q, listOf d.vals d.nq), (c.tk, d.ot),
   (c.r, instObj 762 c.dr), (c.st, instObj 166 c.sd)]

section
variable {P : Params} {c : Cx} {d : Dy} {rest : List (Addr × Obj)}
theorem m_dr : (c.dr, dictOf (rE P c.TR c.st c.lf d.stv (.ref c.tk) c.q) d.nr) ∈ led P c d ++ rest := by simp [led]
theorem m_sd : (c.sd, dictOf (sE P c.TS d.sd) d.ns) ∈ led P c d ++ rest := by simp [led]
theorem m_q : (c.q, listOf d.vals d.nq) ∈ led P c d ++ rest := by simp [led]
theorem m_tk : (c.tk, d.ot) ∈ led P c d ++ rest := by simp [led]
theorem m_r : (c.r, instObj 762 c.dr) ∈ led P c d ++ rest := by simp [led]
theorem m_st : (c.st, instObj 166 c.sd) ∈ led P c d ++ rest := by simp [led]

theorem nd_led (h : ((led P c d ++ rest).map (·.1)).Nodup) (d' : Dy) : ((led P c d' ++ rest).map (·.1)).Nodup := h
theorem not_head {a : Addr} {o : Obj} {l : List (Addr × Obj)} (h : (((a, o) :: l).map (·.1)).Nodup) : ∀ p ∈ l, p.1 ≠ a := fun p hp e => by
  have := (List.nodup_cons.mp h).1
  exact this (List.mem_map.mpr ⟨p, hp, e⟩)
theorem upd_head {a : Addr} {o o' : Obj} {l : List (Addr × Obj)} (h : (((a, o) :: l).map (·.1)).Nodup) : Upd a o o' ((a, o) :: l) ((a, o') :: l) := .head (not_head h)
theorem upd_tail {a b : Addr} {x o o' : Obj} {l l' : List (Addr × Obj)} (h : (((b, x) :: l).map (·.1)).Nodup) (hm : (a, o) ∈ l) (u : (l.map (·.1)).Nodup → Upd a o o' l l') : Upd a o o' ((b, x) :: l) ((b, x) :: l') :=
  .tail (fun e => (List.nodup_cons.mp h).1 (List.mem_map.mpr ⟨_, hm, e.symm⟩)) (u (List.nodup_cons.mp h).2)
theorem upd_r (h : ((led P c d ++ rest).map (·.1)).Nodup) (v : Value) (n : Nat) :
    Upd c.dr (dictOf (rE P c.TR c.st c.lf d.stv (.ref c.tk) c.q) d.nr) (dictOf (rE P c.TR c.st c.lf v (.ref c.tk) c.q) n) (led P c d ++ rest) (led P c { d with stv := v, nr := n } ++ rest) := upd_head h
theorem upd_s (h : ((led P c d ++ rest).map (·.1)).Nodup) (x : SD) (n : Nat) :
    Upd c.sd (dictOf (sE P c.TS d.sd) d.ns) (dictOf (sE P c.TS x) n) (led P c d ++ rest) (led P c { d with sd := x, ns := n } ++ rest) :=
  upd_tail h (.head _) upd_head
theorem upd_q (h : ((led P c d ++ rest).map (·.1)).Nodup) (v : Array Value) (n : Nat) :
    Upd c.q (listOf d.vals d.nq) (listOf v n) (led P c d ++ rest) (led P c { d with vals := v, nq := n } ++ rest) :=
  upd_tail h (.tail _ (.head _)) fun h => upd_tail h (.head _) upd_head
theorem upd_t (h : ((led P c d ++ rest).map (·.1)).Nodup) (o : Obj) :
    Upd c.tk d.ot o (led P c d ++ rest) (led P c { d with ot := o } ++ rest) :=
  upd_tail h (.tail _ (.tail _ (.head _))) fun h => upd_tail h (.tail _ (.head _)) fun h => upd_tail h (.head _) upd_head

theorem perm_grow {l rest : List (Addr × Obj)} {x : Addr × Obj} : (l ++ x :: rest).Perm (x :: (l ++ rest)) := List.perm_middle
theorem Ld.grow {h₀ h' : Heap} {L a : Addr} {o : Obj} {l rest : List (Addr × Obj)} (nd : ((l ++ rest).map (·.1)).Nodup) (N' : News h₀ L h' ((a, o) :: (l ++ rest))) (lt : ∀ p ∈ l ++ rest, p.1 < a) :
    Ld h₀ L h' (l ++ (a, o) :: rest) := by
  refine ⟨fun p hp => N' p (perm_grow.mem_iff.mp hp), (perm_grow.map (·.1)).nodup_iff.mpr ?_⟩
  refine List.nodup_cons.mpr ⟨fun q => ?_, nd⟩
  obtain ⟨p, hp, e⟩ := List.mem_map.mp q
  have := lt p hp
  rw [e] at this
  exact absurd this (Nat.lt_irrefl _)
end

section
variable {P : Params}
theorem rE_stream (T st lf stv cur q) : getL "stream" (rE P T st lf stv cur q) = some (some (.ref st)) := by kernel_rfl
theorem rE_queue (T st lf stv cur q) : getL "tokenQueue" (rE P T st lf stv cur q) = some (some (.ref q)) := by kernel_rfl
theorem rE_cur (T st lf stv cur q) : getL "currentToken" (rE P T st lf stv cur q) = some (some cur) := by kernel_rfl
theorem rE_state (T st lf stv cur q) : getL "state" (rE P T st lf stv cur q) = some (some stv) := by kernel_rfl
theorem rE_setstate (T st lf stv cur q v k n) : (putL "state" (PyData.keyHash P "state") (.str "state" k) v (rE P T st lf stv cur q), putN "state" (rE P T st lf stv cur q) n) = (rE P T st lf v cur q, n) := by kernel_rfl
theorem sE_char (T d) : getL "char" (sE P T d) = some none := by kernel_rfl
theorem sE_unget (T d) : getL "unget" (sE P T d) = some none := by kernel_rfl
theorem cr_dict : hasDictIn (Mine.hd.heap_1 P) 762 = true := by k_is
theorem cr_get1 : plainGet (Mine.hd.heap_1 P) 762 "stream" = true := by k_is
theorem cr_get (n : Str) : plainGet (Mine.hd.heap_1 P) 762 n = true := cr_get1
theorem cr_over : plainOver (Mine.hd.heap_1 P) 762 = true := by k_is
theorem cr_set : findIn (Mine.hd.heap_1 P) (.ref 762) "__setattr__" = some (some (.builtin "object.__setattr__")) := by k_is
theorem cr_stream : findIn (Mine.hd.heap_1 P) (.ref 762) "stream" = some none := by k_is
theorem cr_queue : findIn (Mine.hd.heap_1 P) (.ref 762) "tokenQueue" = some none := by k_is
theorem cr_cur : findIn (Mine.hd.heap_1 P) (.ref 762) "currentToken" = some none := by k_is
theorem cr_state : findIn (Mine.hd.heap_1 P) (.ref 762) "state" = some none := by k_is
theorem cr_tstate : takerIn (Mine.hd.heap_1 P) 762 "state" = some none := by k_is
theorem cs_char : findIn (Mine.hd.heap_1 P) (.ref 166) "char" = some (some (.ref 133)) := by k_is
theorem cs_unget : findIn (Mine.hd.heap_1 P) (.ref 166) "unget" = some (some (.ref 163)) := by k_is
theorem fn_char : isFn (Mine.hd.heap_1 P) (.ref 133) = true := by k_is
theorem fn_unget : isFn (Mine.hd.heap_1 P) (.ref 163) = true := by k_is
theorem kp_char : keepIn (Mine.hd.heap_1 P) (.ref 133) = true := by k_is
theorem kp_unget : keepIn (Mine.hd.heap_1 P) (.ref 163) = true := by k_is
end

section
variable {prog : Program} {w : World} {A : Around} {E : Value → Shared → Prop} {s : Shared} {h₀ : Heap} {L a : Addr} {m : Str → Option Value} {rest : List (Addr × Obj)}
  {R : Result → Shared → Prop} {p : Program} {loose : List Str} {mg mb : Str → Option Value} {cn : Str} {cs : Scope} {cd : Value} {c : Cx} {d : Dy}

theorem r_stream {px pp : Pos} {Q : Value → Shared → Prop} (F : Fr h₀ L s.heap m) (X : (Mine.hd.heap_1 w.params).In h₀) (D : Ld h₀ L s.heap (led w.params c d ++ rest)) (hx : m "self" = some (.ref c.r))
    (h : Q (.ref c.st) { s with toks := s.toks + 1 }) (hk : cs.kind = .function := by rfl) (hy : (envOf cn cs L a cd).kindOf "self" = some .local := by rfl) :
    wpAny (model prog w) A (eval (.Attribute (.Name "self" px) "stream" pp) (envOf cn cs L a cd)) Q E s := fld F X D.N hx m_r m_dr (cr_get _) cr_dict cr_stream (rE_stream _ _ _ _ _ _) rfl h hk hy
theorem r_queue {px pp : Pos} {Q : Value → Shared → Prop} (F : Fr h₀ L s.heap m) (X : (Mine.hd.heap_1 w.params).In h₀) (D : Ld h₀ L s.heap (led w.params c d ++ rest)) (hx : m "self" = some (.ref c.r))
    (h : Q (.ref c.q) { s with toks := s.toks + 1 }) (hk : cs.kind = .function := by rfl) (hy : (envOf cn cs L a cd).kindOf "self" = some .local := by rfl) :
    wpAny (model prog w) A (eval (.Attribute (.Name "self" px) "tokenQueue" pp) (envOf cn cs L a cd)) Q E s := fld F X D.N hx m_r m_dr (cr_get _) cr_dict cr_queue (rE_queue _ _ _ _ _ _) rfl h hk hy
theorem r_cur {px pp : Pos} {Q : Value → Shared → Prop} (F : Fr h₀ L s.heap m) (X : (Mine.hd.heap_1 w.params).In h₀) (D : Ld h₀ L s.heap (led w.params c d ++ rest)) (hx : m "self" = some (.ref c.r))
    (h : Q (.ref c.tk) { s with toks := s.toks + 1 }) (hk : cs.kind = .function := by rfl) (hy : (envOf cn cs L a cd).kindOf "self" = some .local := by rfl) :
    wpAny (model prog w) A (eval (.Attribute (.Name "self" px) "currentToken" pp) (envOf cn cs L a cd)) Q E s := fld F X D.N hx m_r m_dr (cr_get _) cr_dict cr_cur (rE_cur _ _ _ _ _ _) rfl h hk hy

theorem MCallA {b : Expr} {f name : Str} {fp apos pos : Pos} {args : List Expr} {Q : Value → Shared → Prop} {M : Model} {env : Env}
    (h : ∀ pl pos', wpAny M A (eval (.Attribute b f fp) env) (fun ov s₁ => wpAny M A (getMethod ov name pl) (fun fx s₂ => wpAny M A (callWith pos' fx.1 fx.2 (backTo pos (starEach args env)) []) Q E s₂) E s₁) E s)
    (hl : methodCallForm (args.length + 0) (backTo pos (starEach args env)) [] = true := by rfl) :
    wpAny M A (eval (.Call (.Attribute (.Attribute b f fp) name apos) args [] pos) env) Q E s := by
  show wpAny M A (eval (.Attribute b f fp) env >>= fun ov => standAt apos.atName >>= fun _ => methodCall _ _ _ _ _ _ _ _ _) Q E s
  obtain ⟨pos', hp⟩ : ∃ pos', methodCallPos true (.Attribute b f fp) env apos pos = pure pos' := by
    unfold methodCallPos
    by_cases q : (apos.endLine == pos.line) = true
    · exact ⟨_, by rw [q]; rfl⟩
    · refine ⟨{ pos with line := apos.endLine }, ?_⟩
      simp [q]
      rfl
  refine wpAny_bind (wpAny_mono (h (importBound (.Attribute b f fp) env >>= fun r => pure (r.getD true)) pos') (fun ov s₁ h₁ => wpAny_bind (wpAny_standAt ?_)) fun _ _ x => x)
  unfold methodCall
  have e : methodCallForm (args.length + ([] : List Keyword).length) (backTo pos (starEach args env)) (backToKw pos (keywordEach [] env)) = true := hl
  rw [e]
  refine wpAny_bind (wpAny_holding (wpAny_mono h₁ (fun fx s₂ h₂ => ?_) fun _ _ x => x))
  dsimp only
  rw [hp]
  exact wpAny_bind (wpAny_pure h₂)

/-- data = self.stream.char() -/
theorem op_char {x : Str} {p1 p2 p3 p4 p5 p6 : Pos} {ch : Nat} {Q : Flow → Shared → Prop} (hA : Room A 1) (F : Fr h₀ L s.heap m) (X : (Mine.hd.heap_1 w.params).In h₀) (T₀ : TopRead p loose mg mb h₀) (D : Ld h₀ L s.heap (led w.params c d ++ rest)) (hx : m "self" = some (.ref c.r))
    (hlt : d.sd.off < d.sd.size) (h0 : 0 ≤ d.sd.off) (hbig : d.sd.size < 2 ^ 60) (hc : d.sd.chunk.cps[d.sd.off.toNat]? = some ch)
    (h : ∀ h' tk t u, Fr h₀ L h' (fun y => if y = x then some (.str ⟨#[ch]⟩ t) else m y) → Ld h₀ L h' (led w.params c { d with sd := { d.sd with off := d.sd.off + 1, ot := u } } ++ rest) → Q .next { s with heap := h', toks := tk })
    (hk : cs.kind = .function := by rfl) (hy : (envOf cn cs L a cd).kindOf "self" = some .local := by rfl) (hz : (envOf cn cs L a cd).kindOf x = some .local := by rfl) :
    wpAny (model prog w) A (exec (.Assign [.Name x p1] (.Call (.Attribute (.Attribute (.Name "self" p2) "stream" p3) "char" p4) [] [] p5) p6) (envOf cn cs L a cd)) Q E s := by
  refine wpAny_Assign_Name (MCallA fun pl pq => r_stream F X D hx ?_ hk hy)
  refine method_inst F X (InstAt.of_news D.N m_st m_sd) (cs_get _) cs_char fn_char (sE_char _ _) ?_
  refine callWith_K0 (env := envOf cn cs L a cd) (X.keeps F.keep) kp_char (wpAny_call ?_)
  refine char_in (news' := fun u => led w.params c { d with sd := { d.sd with off := d.sd.off + 1, ot := u } } ++ rest) hA F D.N X T₀ m_st m_sd (fun u => upd_s D.nd _ _) hlt h0 hbig hc fun u t h' tk F' N' => ?_
  exact stN F' N' (fun h'' F'' N'' => h _ _ _ _ F'' ⟨N'', nd_led D.nd _⟩) hk hz
end
end
end Mine
end
-- part LE
section
open PySem PySem.W PySem.Calls PyProof.Rows
set_option Elab.async false
set_option maxRecDepth 100000
namespace Mine
noncomputable section

/-- one sign as a text -/
noncomputable def one (c : Nat) : Str := ⟨#[c]⟩
theorem one_beq (a b : Nat) : (one a == one b) = (a == b) := by
  rw [Bool.eq_iff_iff, beq_iff_eq, beq_iff_eq]
  exact ⟨fun h => by have := congrArg (fun x : Str => x.cps[0]!) h; simpa [one] using this, fun h => by rw [h]⟩
noncomputable def isSp (c : Nat) : Bool := c == 9 || c == 10 || c == 12 || c == 32 || c == 13

section
variable {P : Params}
theorem g_sp : nsIn (Mine.hd.heap_1 P) mainGlobals "spaceCharacters" = some (some (.ref 22)) := by k_is
theorem g_eof : nsIn (Mine.hd.heap_1 P) mainGlobals "EOF" = some (some .none) := by k_is
theorem g_tt : nsIn (Mine.hd.heap_1 P) mainGlobals "tokenTypes" = some (some (.ref 48)) := by k_is
theorem g_lower : nsIn (Mine.hd.heap_1 P) mainGlobals "asciiLower" = some (some (.ref 42)) := by k_is
end

theorem sp_is {P : Params} {h : Heap} (X : (Mine.hd.heap_1 P).In h) : ∃ items : Array Value, IsTup h 22 items ∧ StrsAre items.toList [one 9, one 10, one 12, one 32, one 13] := by
  refine ⟨_, tupK X (dd := none) (sl := #[]) (n := 0) (l := [_, _, _, _, _]) (by k_is), ?_⟩
  exact .cons _ _ (.cons _ _ (.cons _ _ (.cons _ _ (.cons _ _ .nil))))

section
variable {prog : Program} {w : World} {A : Around} {E : Value → Shared → Prop} {s : Shared} {h₀ : Heap} {L a : Addr} {m : Str → Option Value} {l : List (Addr × Obj)}
  {p : Program} {loose : List Str} {mg mb : Str → Option Value} {cn : Str} {cs : Scope} {cd : Value} {ch : Nat} {t : Tok}

/-- a test that comes out b, the frame and the ledger kept -/
noncomputable def Tst (M : Model) (A : Around) (h₀ : Heap) (L : Addr) (m : Str → Option Value) (l : List (Addr × Obj)) (s : Shared) (env : Env) (e : Expr) (b : Bool) : Prop :=
  ∀ (E : Value → Shared → Prop) (Q : Bool → Shared → Prop), (∀ h' tk, Fr h₀ L h' m → Ld h₀ L h' l → Q b { s with heap := h', toks := tk }) → wpAny M A (isTrue e env (eval e env)) Q E s

theorem if_yes {M : Model} {env : Env} {e : Expr} {body orelse : List Stmt} {pos : Pos} {Q : Flow → Shared → Prop} (T : Tst M A h₀ L m l s env e true)
    (h : ∀ h' tk, Fr h₀ L h' m → Ld h₀ L h' l → wpAny M A (execs body env) Q E { s with heap := h', toks := tk }) : wpAny M A (exec (.If e body orelse pos) env) Q E s :=
  wpAny_If (T E _ fun h' tk F D => by rw [if_pos rfl]; exact h h' tk F D)
theorem if_no {M : Model} {env : Env} {e : Expr} {body orelse : List Stmt} {pos : Pos} {Q : Flow → Shared → Prop} (T : Tst M A h₀ L m l s env e false)
    (h : ∀ h' tk, Fr h₀ L h' m → Ld h₀ L h' l → wpAny M A (execs orelse env) Q E { s with heap := h', toks := tk }) : wpAny M A (exec (.If e body orelse pos) env) Q E s :=
  wpAny_If (T E _ fun h' tk F D => by rw [if_neg Bool.false_ne_true]; exact h h' tk F D)

theorem t_sp {x : Str} {b : Bool} {p1 p2 p3 : Pos} (F : Fr h₀ L s.heap m) (D : Ld h₀ L s.heap l) (X : (Mine.hd.heap_1 w.params).In h₀) (T₀ : TopRead p loose mg mb h₀) (hx : m x = some (.str (one ch) t)) (hb : isSp ch = b)
    (hk : cs.kind = .function := by rfl) (hy : (envOf cn cs L a cd).kindOf x = some .local := by rfl) (hz : (envOf cn cs L a cd).kindOf "spaceCharacters" = some .globalImplicit := by rfl) (hd : (x == ("__debug__" : Str)) = false := by decide) :
    Tst (model prog w) A h₀ L m l s (envOf cn cs L a cd) (.Compare (.Name x p1) [.In] [.Name "spaceCharacters" p2] p3) b := by
  intro E Q h
  obtain ⟨items, hi, ha⟩ := sp_is (X.keeps F.keep)
  refine wpAny_isTrue_Compare1 (ld F hx (name_K F X T₀ g_sp (in_tuple_strs hi ha (wpAny_truthy_bool ?_)) hk hz) hk hy hd)
  have e : ([one 9, one 10, one 12, one 32, one 13] : List Str).any (· == one ch) = b := by
    rw [← hb]
    simp only [List.any_cons, List.any_nil, one_beq, Bool.or_false, isSp, Bool.or_assoc]
    simp only [Bool.beq_comm, BEq.comm]
  rw [e]
  exact h _ _ F D

theorem t_eq {x y : Str} {b : Bool} {k : Nat} {p1 p2 p3 : Pos} (F : Fr h₀ L s.heap m) (D : Ld h₀ L s.heap l) (hx : m x = some (.str (one ch) t)) (hb : (one ch == y) = b)
    (hk : cs.kind = .function := by rfl) (hy : (envOf cn cs L a cd).kindOf x = some .local := by rfl) (hd : (x == ("__debug__" : Str)) = false := by decide) :
    Tst (model prog w) A h₀ L m l s (envOf cn cs L a cd) (.Compare (.Name x p1) [.Eq] [.Constant (.str y) k p2] p3) b := by
  intro E Q h
  refine wpAny_isTrue_Compare1 (ld F hx (wpAny_Constant_str (eq_str (wpAny_truthy_bool ?_))) hk hy hd)
  rw [hb]
  exact h _ _ F D

theorem t_eof {x : Str} {p1 p2 p3 : Pos} (F : Fr h₀ L s.heap m) (D : Ld h₀ L s.heap l) (X : (Mine.hd.heap_1 w.params).In h₀) (T₀ : TopRead p loose mg mb h₀) (hx : m x = some (.str (one ch) t))
    (hk : cs.kind = .function := by rfl) (hy : (envOf cn cs L a cd).kindOf x = some .local := by rfl) (hz : (envOf cn cs L a cd).kindOf "EOF" = some .globalImplicit := by rfl) (hd : (x == ("__debug__" : Str)) = false := by decide) :
    Tst (model prog w) A h₀ L m l s (envOf cn cs L a cd) (.Compare (.Name x p1) [.Is] [.Name "EOF" p2] p3) false := by
  intro E Q h
  exact wpAny_isTrue_Compare1 (ld F hx (name_K F X T₀ g_eof (is_none_ne (by intro q; cases q) (wpAny_truthy_bool (h _ _ F D))) hk hz) hk hy hd)
theorem t_eqeof {x : Str} {p1 p2 p3 : Pos} (F : Fr h₀ L s.heap m) (D : Ld h₀ L s.heap l) (X : (Mine.hd.heap_1 w.params).In h₀) (T₀ : TopRead p loose mg mb h₀) (hx : m x = some (.str (one ch) t))
    (hk : cs.kind = .function := by rfl) (hy : (envOf cn cs L a cd).kindOf x = some .local := by rfl) (hz : (envOf cn cs L a cd).kindOf "EOF" = some .globalImplicit := by rfl) (hd : (x == ("__debug__" : Str)) = false := by decide) :
    Tst (model prog w) A h₀ L m l s (envOf cn cs L a cd) (.Compare (.Name x p1) [.Eq] [.Name "EOF" p2] p3) false := by
  intro E Q h
  exact wpAny_isTrue_Compare1 (ld F hx (name_K F X T₀ g_eof (EqNone.eq_str_none (wpAny_truthy_bool (h _ _ F D))) hk hz) hk hy hd)

theorem t_in2 {x y z : Str} {b : Bool} {k k1 k2 : Nat} {p1 p2 p3 p4 p5 : Pos} (F : Fr h₀ L s.heap m) (D : Ld h₀ L s.heap l) (hx : m x = some (.str (one ch) t)) (hb : (y == one ch || z == one ch) = b)
    (hk : cs.kind = .function := by rfl) (hy : (envOf cn cs L a cd).kindOf x = some .local := by rfl) (hd : (x == ("__debug__" : Str)) = false := by decide) :
    Tst (model prog w) A h₀ L m l s (envOf cn cs L a cd) (.Compare (.Name x p1) [.In] [.Tuple [.Constant (.str y) k1 p2, .Constant (.str z) k2 p3] k p4] p5) b := by
  intro E Q h
  refine wpAny_isTrue_Compare1 (ld F hx (Tuple_ (wpAny_items_cons (wpAny_Constant_str (wpAny_items_cons (wpAny_Constant_str (wpAny_items_nil ?_)))))) hk hy hd)
  refine newTuple_N F D.N (fun h' F' N' => ?_) (by show 2 ≤ sizeLine; decide)
  refine in_tuple_strs (News.isTup N' (.head _)) (.cons _ _ (.cons _ _ .nil)) (wpAny_truthy_bool ?_)
  have e : ([y, z] : List Str).any (· == one ch) = b := by rw [← hb]; simp
  rw [e]
  exact h _ _ F' ⟨fun q hq => N' q (.tail _ hq), D.nd⟩
end
end
end Mine
end
-- part LF
section
open PySem PySem.W PySem.Calls PyProof.Rows
set_option Elab.async false
set_option maxRecDepth 100000
namespace Mine
noncomputable section

section
variable {P : Params}
theorem fn_get {f : Addr} (h : isFn (Mine.hd.heap_1 P) (.ref f) = true) : specialIn (Mine.hd.heap_1 P) (.ref f) "__get__" = some (some (.builtin "function.__get__")) := by
  unfold specialIn
  rw [beq_iff_eq.mp h]
  kernel_rfl
theorem fn_takes {f : Addr} (h : isFn (Mine.hd.heap_1 P) (.ref f) = true) : takesIn (Mine.hd.heap_1 P) (.ref f) = some false := by
  have t : typeIn (Mine.hd.heap_1 P) (.ref f) = some (.type "function") := beq_iff_eq.mp h
  have e1 : specialIn (Mine.hd.heap_1 P) (.ref f) "__set__" = some none := by unfold specialIn; rw [t]; kernel_rfl
  have e2 : specialIn (Mine.hd.heap_1 P) (.ref f) "__delete__" = some none := by unfold specialIn; rw [t]; kernel_rfl
  unfold takesIn
  rw [e1]
  dsimp only
  rw [e2]
  rfl
/-- name of a state, its function: what is asked of them -/
structure StFn (P : Params) (x : Str) (f : Addr) : Prop where
  find : findIn (Mine.hd.heap_1 P) (.ref 762) x = some (some (.ref f))
  fn : isFn (Mine.hd.heap_1 P) (.ref f) = true
  cp : copiedNames.contains x = false
  off : ∀ T st lf stv cur q, getL x (rE P T st lf stv cur q) = some none
end

section
variable {prog : Program} {w : World} {A : Around} {E : Value → Shared → Prop} {s : Shared} {h₀ : Heap} {L a : Addr} {m : Str → Option Value} {rest : List (Addr × Obj)}
  {p : Program} {loose : List Str} {mg mb : Str → Option Value} {cn : Str} {cs : Scope} {cd : Value} {c : Cx} {d : Dy} {Q : Flow → Shared → Prop}

/-- self.state = self.X -/
theorem op_state {x : Str} {f : Addr} {p1 p2 p3 p4 p5 : Pos} (Sf : StFn w.params x f) (F : Fr h₀ L s.heap m) (X : (Mine.hd.heap_1 w.params).In h₀) (D : Ld h₀ L s.heap (led w.params c d ++ rest)) (hx : m "self" = some (.ref c.r))
    (h : ∀ h' tk mu, Fr h₀ L h' m → Ld h₀ L h' (led w.params c { d with stv := .ref mu } ++ (mu, methodObj (.ref f) (.ref c.r)) :: rest) → Q .next { s with heap := h', toks := tk })
    (hk : cs.kind = .function := by rfl) (hy : (envOf cn cs L a cd).kindOf "self" = some .local := by rfl) :
    wpAny (model prog w) A (exec (.Assign [.Attribute (.Name "self" p1) "state" p2] (.Attribute (.Name "self" p3) x p4) p5) (envOf cn cs L a cd)) Q E s := by
  refine plainObj_wpAny_Assign_Attribute (Attribute_Name_ (ld F hx ?_ hk hy))
  refine kbm_bound F X D.N (InstAt.of_news D.N m_r m_dr) (cr_get _) cr_dict Sf.find Sf.fn (fn_get Sf.fn) (fn_takes Sf.fn) Sf.cp (Sf.off _ _ _ _ _ _) fun mu h' F' N' lt => ?_
  have D' := Ld.grow D.nd N' lt
  refine ld F' hx ?_ hk hy
  exact set_dict F' X D'.N (InstAt.of_news D'.N m_r m_dr) rfl cr_set cr_over cr_tstate cr_dict (by rw [rE_state]; rfl) (rE_setstate _ _ _ _ _ _ _ _ _) (upd_r D'.nd _ _) (Nat.le_of_ble_eq_true rfl)
    fun h'' F'' N'' => h _ _ _ F'' ⟨N'', nd_led D'.nd _⟩

/-- {'type': tokenTypes['ParseError'], 'data': x} -/
theorem mk_err {x : Str} {p1 p2 p3 p4 p5 p6 p7 : Pos} {k1 k2 k3 k4 : Nat} {l : List (Addr × Obj)} {Q : Value → Shared → Prop} (F : Fr h₀ L s.heap m) (X : (Mine.hd.heap_1 w.params).In h₀) (T₀ : TopRead p loose mg mb h₀) (N : News h₀ L s.heap l)
    (h : ∀ h' tk b o t u, Fr h₀ L h' m → News h₀ L h' ((b, o) :: l) → (∀ p ∈ l, p.1 < b) → o.IsDictOf (strKind prog w) [("type", .int 7 t), ("data", .str x u)] → Q (.ref b) { s with heap := h', toks := tk })
    (hk : cs.kind = .function := by rfl) (hz : (envOf cn cs L a cd).kindOf "tokenTypes" = some .globalImplicit := by rfl) :
    wpAny (model prog w) A (eval (.Dict [some (.Constant (.str "type") k1 p1), some (.Constant (.str "data") k2 p2)] [.Subscript (.Name "tokenTypes" p3) (.Constant (.str "ParseError") k3 p4) p5, .Constant (.str x) k4 p6] p7) (envOf cn cs L a cd)) Q E s := by
  refine kdn_str rfl F N T₀.nolimit rfl rfl (List.cons_ne_nil _ _) (Nat.le_of_ble_eq_true rfl) fun b h' o F' N' lt lo hd => ?_
  refine pairTrees_cons_walk (wpAny_Constant_str (Subscript_ (name_K F' X T₀ g_tt (wpAny_Constant_str ?_) hk hz)))
  refine topItem_K (v := .int 7 547) F' X (by k_is) (by repeat (first | exact True.intro | refine And.intro ⟨_, _, rfl, rfl⟩ ?_)) (by k_is) ?_
  refine pairTrees_cons_walk (wpAny_Constant_str (wpAny_Constant_str (pairTrees_nil_walk ?_)))
  refine kdn_made_str (g := fun o' => (b, o') :: l) F' N' (.head fun p hp => Nat.ne_of_lt (lt p hp)) hd rfl (of_decide_eq_true (by kernel_rfl)) fun h'' o' F'' N'' hd' => ?_
  exact h _ _ _ _ _ _ F'' N'' lt hd'

/-- an item of the queue that tells the error x -/
noncomputable def ErrObj (prog : Program) (w : World) (o : Obj) (x : Str) : Prop := ∃ kvs t u, o.IsDictOf (strKind prog w) kvs ∧ valueAt kvs "type" = some (.int 7 t) ∧ valueAt kvs "data" = some (.str x u)

theorem op_append {e : Expr} {p1 p2 p3 p4 p5 : Pos} {Post : Value → List (Addr × Obj) → Prop} (F : Fr h₀ L s.heap m) (X : (Mine.hd.heap_1 w.params).In h₀) (D : Ld h₀ L s.heap (led w.params c d ++ rest)) (hx : m "self" = some (.ref c.r))
    (hv : ∀ (s₁ : Shared) (E : Value → Shared → Prop) (Q : Value → Shared → Prop), Fr h₀ L s₁.heap m → Ld h₀ L s₁.heap (led w.params c d ++ rest) → (∀ h' tk v rest', Fr h₀ L h' m → Ld h₀ L h' (led w.params c d ++ rest') → Post v rest' → Q v { s₁ with heap := h', toks := tk }) → wpAny (model prog w) A (eval e (envOf cn cs L a cd)) Q E s₁)
    (hsz : d.vals.size ≤ 1000)
    (h : ∀ h' tk v rest', Fr h₀ L h' m → Ld h₀ L h' (led w.params c { d with vals := d.vals.push v, nq := d.nq + 1 } ++ rest') → Post v rest' → Q .next { s with heap := h', toks := tk })
    (hs : starEach [e] (envOf cn cs L a cd) = [(false, eval e (envOf cn cs L a cd))] := by rfl)
    (hk : cs.kind = .function := by rfl) (hy : (envOf cn cs L a cd).kindOf "self" = some .local := by rfl) :
    wpAny (model prog w) A (exec (.Expr (.Call (.Attribute (.Attribute (.Name "self" p1) "tokenQueue" p2) "append" p3) [e] [] p4) p5) (envOf cn cs L a cd)) Q E s := by
  refine wpAny_Expr (MCallA (fun pl pq => r_queue F X D hx ?_ hk hy) (by rw [hs]; rfl)) (by unfold interactive; rw [show (envOf cn cs L a cd).scope.kind = .function from hk]; rfl)
  refine getMethod_append_N D.N m_q ?_
  have call : ∀ (s₁ : Shared), Fr h₀ L s₁.heap m → Ld h₀ L s₁.heap (led w.params c d ++ rest) → (∀ h' tk v rest', Fr h₀ L h' m → Ld h₀ L h' (led w.params c { d with vals := d.vals.push v, nq := d.nq + 1 } ++ rest') → Post v rest' → Q .next { s₁ with heap := h', toks := tk }) →
      wpAny (model prog w) A (callWith pq (.builtin "list.append") [.ref c.q] [(false, eval e (envOf cn cs L a cd))] []) (fun v s' => match v with | .ref _ => False | _ => Q .next s') E s₁ := by
    intro s₁ F₁ D₁ k
    refine callWith_builtin rfl (evalArgs_plain (spliced_cons (hv _ _ _ F₁ D₁ fun h' tk v rest' F' D' hp => spliced_nil ?_)))
    exact append_K F' D'.N (upd_q D'.nd _ _) (fun h'' F'' N'' => k _ _ _ _ F'' ⟨N'', nd_led D'.nd _⟩ hp) (by rw [sizeLine_eq]; omega)
  have e0 : backTo p4 (starEach [e] (envOf cn cs L a cd)) = [(false, eval e (envOf cn cs L a cd))] := by
    rw [hs]; rfl
  show wpAny (model prog w) A (callWith pq (.builtin "list.append") [.ref c.q] (backTo p4 (starEach [e] (envOf cn cs L a cd))) []) _ E _
  rw [e0]
  exact call _ F D h

theorem op_err {x : Str} {p1 p2 p3 p4 p5 p6 p7 q1 q2 q3 q4 q5 : Pos} {k1 k2 k3 k4 : Nat} (F : Fr h₀ L s.heap m) (X : (Mine.hd.heap_1 w.params).In h₀) (T₀ : TopRead p loose mg mb h₀) (D : Ld h₀ L s.heap (led w.params c d ++ rest)) (hx : m "self" = some (.ref c.r))
    (hsz : d.vals.size ≤ 1000)
    (h : ∀ h' tk b o, Fr h₀ L h' m → Ld h₀ L h' (led w.params c { d with vals := d.vals.push (.ref b), nq := d.nq + 1 } ++ (b, o) :: rest) → ErrObj prog w o x → Q .next { s with heap := h', toks := tk })
    (hk : cs.kind = .function := by rfl) (hy : (envOf cn cs L a cd).kindOf "self" = some .local := by rfl) (hz : (envOf cn cs L a cd).kindOf "tokenTypes" = some .globalImplicit := by rfl) :
    wpAny (model prog w) A (exec (.Expr (.Call (.Attribute (.Attribute (.Name "self" q1) "tokenQueue" q2) "append" q3) [.Dict [some (.Constant (.str "type") k1 p1), some (.Constant (.str "data") k2 p2)] [.Subscript (.Name "tokenTypes" p3) (.Constant (.str "ParseError") k3 p4) p5, .Constant (.str x) k4 p6] p7] [] q4) q5) (envOf cn cs L a cd)) Q E s := by
  refine op_append (Post := fun v r => ∃ b o, v = .ref b ∧ r = (b, o) :: rest ∧ ErrObj prog w o x) F X D hx (fun s₁ E Q F₁ D₁ k => ?_) hsz (fun h' tk v rest' F' D' hp => ?_) rfl hk hy
  · exact mk_err F₁ X T₀ D₁.N (fun h' tk b o t u F' N' lt ho => k _ _ _ _ F' (Ld.grow D₁.nd N' lt) ⟨b, o, rfl, rfl, _, _, _, ho, rfl, rfl⟩) hk hz
  · obtain ⟨b, o, rfl, rfl, ho⟩ := hp
    exact h _ _ _ _ F' D' ho
end
end
end Mine
end
-- part LG
section
open PySem PySem.W PySem.Calls PyProof.Rows
set_option Elab.async false
set_option maxRecDepth 100000
namespace Mine
noncomputable section

section
variable {prog : Program} {w : World} {A : Around} {E : Value → Shared → Prop} {s : Shared} {h₀ : Heap} {L a : Addr} {m : Str → Option Value} {rest : List (Addr × Obj)}
  {p : Program} {loose : List Str} {mg mb : Str → Option Value} {cn : Str} {cs : Scope} {cd : Value} {c : Cx} {d : Dy} {Q : Flow → Shared → Prop}

theorem tk_change {h h' : Heap} {o' : Obj} (F : Fr h₀ L h m) (D : Ld h₀ L h (led w.params c d ++ rest)) (hs : Heap.SameBut c.tk h h') (ho : h'.get? c.tk = some o') :
    Fr h₀ L h' m ∧ Ld h₀ L h' (led w.params c { d with ot := o' } ++ rest) := by
  have U := (upd_t D.nd o').split
  obtain ⟨pre, post, e1, e2, a, b⟩ := U
  have z := D.N (c.tk, d.ot) m_tk
  refine ⟨F.change hs z.2.1 z.2.2, ?_, nd_led D.nd _⟩
  rw [e2]
  have N := D.N
  rw [e1] at N
  exact news_set N a b hs ho

theorem setItem_tk {key : Str} {v : Value} {u : Tok} {kvs : List (Str × Value)} {Q : Unit → Shared → Prop} (F : Fr h₀ L s.heap m) (D : Ld h₀ L s.heap (led w.params c d ++ rest)) (ht : d.ot.IsDictOf (strKind prog w) kvs) (hlen : kvs.length ≤ 100)
    (h : ∀ h' o', Fr h₀ L h' m → Ld h₀ L h' (led w.params c { d with ot := o' } ++ rest) → o'.IsDictOf (strKind prog w) (stored kvs key v) → Q () { s with heap := h', toks := s.toks + 1 }) :
    wpAny (model prog w) A (setItem (.ref c.tk) (.str key u) v) Q E s := by
  refine wpAny_setItem_pairs (knd := strKind prog w) (k := key) (strKind_is prog w key u) (Heap.dictOf_iff.mpr ⟨_, (D.N _ m_tk).1, ht⟩) (fun h' hm hs => ?_) (by rw [sizeLine_eq]; omega)
  obtain ⟨o', ho', hd'⟩ := Heap.dictOf_iff.mp hm
  obtain ⟨F', D'⟩ := tk_change F D hs ho'
  exact h _ _ F' D' hd'
theorem getItem_tk {key : Str} {v : Value} {u : Tok} {kvs : List (Str × Value)} {Q : Value → Shared → Prop} (D : Ld h₀ L s.heap (led w.params c d ++ rest)) (ht : d.ot.IsDictOf (strKind prog w) kvs) (hv : valueAt kvs key = some v)
    (h : Q v { s with toks := s.toks + 1 }) : wpAny (model prog w) A (getItem (.ref c.tk) (.str key u)) Q E s :=
  wpAny_getItem_of (strKind_is prog w key u) (Heap.dictOf_iff.mpr ⟨_, (D.N _ m_tk).1, ht⟩ : s.heap.DictOf (strKind prog w) c.tk kvs).mapOf hv h

/-- self.currentToken[key] = .. : behind the value -/
theorem tok_fin {key : Str} {v : Value} {k : Nat} {p1 p2 p3 : Pos} {kvs : List (Str × Value)} (F : Fr h₀ L s.heap m) (X : (Mine.hd.heap_1 w.params).In h₀) (D : Ld h₀ L s.heap (led w.params c d ++ rest)) (hx : m "self" = some (.ref c.r))
    (ht : d.ot.IsDictOf (strKind prog w) kvs) (hlen : kvs.length ≤ 100)
    (h : ∀ h' tk o', Fr h₀ L h' m → Ld h₀ L h' (led w.params c { d with ot := o' } ++ rest) → o'.IsDictOf (strKind prog w) (stored kvs key v) → Q .next { s with heap := h', toks := tk })
    (hk : cs.kind = .function) (hy : (envOf cn cs L a cd).kindOf "self" = some .local) :
    wpAny (model prog w) A (eval (.Attribute (.Name "self" p1) "currentToken" p2) (envOf cn cs L a cd)) (fun ov s₂ => wpAny (model prog w) A (eval (.Constant (.str key) k p3) (envOf cn cs L a cd)) (fun iv s₃ =>
      wpAny (model prog w) A (setItem ov iv v) (fun _ => Q .next) E s₃) E s₂) E s :=
  r_cur F X D hx (wpAny_Constant_str (setItem_tk (s := { s with toks := s.toks + 1 + 1 }) F D ht hlen fun h' o' F' D' ho => h _ _ _ F' D' ho)) hk hy

theorem op_tokbool {key : Str} {b : Bool} {k k' : Nat} {p1 p2 p3 p4 p5 p6 : Pos} {kvs : List (Str × Value)} (F : Fr h₀ L s.heap m) (X : (Mine.hd.heap_1 w.params).In h₀) (D : Ld h₀ L s.heap (led w.params c d ++ rest)) (hx : m "self" = some (.ref c.r))
    (ht : d.ot.IsDictOf (strKind prog w) kvs) (hlen : kvs.length ≤ 100)
    (h : ∀ h' tk o', Fr h₀ L h' m → Ld h₀ L h' (led w.params c { d with ot := o' } ++ rest) → o'.IsDictOf (strKind prog w) (stored kvs key (.bool b)) → Q .next { s with heap := h', toks := tk })
    (hk : cs.kind = .function := by rfl) (hy : (envOf cn cs L a cd).kindOf "self" = some .local := by rfl) :
    wpAny (model prog w) A (exec (.Assign [.Subscript (.Attribute (.Name "self" p1) "currentToken" p2) (.Constant (.str key) k p3) p4] (.Constant (.bool b) k' p5) p6) (envOf cn cs L a cd)) Q E s :=
  wpAny_Assign_Subscript (wpAny_Constant_bool (tok_fin F X D hx ht hlen h hk hy))
theorem op_tokstr {key x : Str} {k k' : Nat} {p1 p2 p3 p4 p5 p6 : Pos} {kvs : List (Str × Value)} (F : Fr h₀ L s.heap m) (X : (Mine.hd.heap_1 w.params).In h₀) (D : Ld h₀ L s.heap (led w.params c d ++ rest)) (hx : m "self" = some (.ref c.r))
    (ht : d.ot.IsDictOf (strKind prog w) kvs) (hlen : kvs.length ≤ 100)
    (h : ∀ h' tk o' t, Fr h₀ L h' m → Ld h₀ L h' (led w.params c { d with ot := o' } ++ rest) → o'.IsDictOf (strKind prog w) (stored kvs key (.str x t)) → Q .next { s with heap := h', toks := tk })
    (hk : cs.kind = .function := by rfl) (hy : (envOf cn cs L a cd).kindOf "self" = some .local := by rfl) :
    wpAny (model prog w) A (exec (.Assign [.Subscript (.Attribute (.Name "self" p1) "currentToken" p2) (.Constant (.str key) k p3) p4] (.Constant (.str x) k' p5) p6) (envOf cn cs L a cd)) Q E s :=
  wpAny_Assign_Subscript (wpAny_Constant_str (tok_fin (s := { s with toks := s.toks + 1 }) F X D hx ht hlen (fun h' tk o' F' D' ho => h h' tk o' _ F' D' ho) hk hy))
theorem op_tokvar {key y : Str} {v : Value} {k : Nat} {p1 p2 p3 p4 p5 p6 : Pos} {kvs : List (Str × Value)} (F : Fr h₀ L s.heap m) (X : (Mine.hd.heap_1 w.params).In h₀) (D : Ld h₀ L s.heap (led w.params c d ++ rest)) (hx : m "self" = some (.ref c.r)) (hv : m y = some v)
    (ht : d.ot.IsDictOf (strKind prog w) kvs) (hlen : kvs.length ≤ 100)
    (h : ∀ h' tk o', Fr h₀ L h' m → Ld h₀ L h' (led w.params c { d with ot := o' } ++ rest) → o'.IsDictOf (strKind prog w) (stored kvs key v) → Q .next { s with heap := h', toks := tk })
    (hk : cs.kind = .function := by rfl) (hy : (envOf cn cs L a cd).kindOf "self" = some .local := by rfl) (hz : (envOf cn cs L a cd).kindOf y = some .local := by rfl) (hd : (y == ("__debug__" : Str)) = false := by decide) :
    wpAny (model prog w) A (exec (.Assign [.Subscript (.Attribute (.Name "self" p1) "currentToken" p2) (.Constant (.str key) k p3) p4] (.Name y p5) p6) (envOf cn cs L a cd)) Q E s :=
  wpAny_Assign_Subscript (ld F hv (tok_fin F X D hx ht hlen h hk hy) hk hz hd)

/-- self.currentToken[key] += .. -/
theorem op_tokaug {key x z : Str} {t : Tok} {e : Expr} {k : Nat} {p1 p2 p3 p4 p6 : Pos} {kvs : List (Str × Value)} (F : Fr h₀ L s.heap m) (X : (Mine.hd.heap_1 w.params).In h₀) (D : Ld h₀ L s.heap (led w.params c d ++ rest)) (hx : m "self" = some (.ref c.r))
    (ht : d.ot.IsDictOf (strKind prog w) kvs) (hlen : kvs.length ≤ 100) (hv : valueAt kvs key = some (.str x t)) (hsz : x.length + z.length ≤ 100000)
    (he : ∀ (s₁ : Shared) (Q : Value → Shared → Prop), Fr h₀ L s₁.heap m → (∀ t tk, Q (.str z t) { s₁ with toks := tk }) → wpAny (model prog w) A (eval e (envOf cn cs L a cd)) Q E s₁)
    (h : ∀ h' tk o' t, Fr h₀ L h' m → Ld h₀ L h' (led w.params c { d with ot := o' } ++ rest) → o'.IsDictOf (strKind prog w) (stored kvs key (.str (x ++ z) t)) → Q .next { s with heap := h', toks := tk })
    (hk : cs.kind = .function := by rfl) (hy : (envOf cn cs L a cd).kindOf "self" = some .local := by rfl) :
    wpAny (model prog w) A (exec (.AugAssign (.Subscript (.Attribute (.Name "self" p1) "currentToken" p2) (.Constant (.str key) k p3) p4) .Add e p6) (envOf cn cs L a cd)) Q E s := by
  refine wpAny_AugAssign_Subscript_any (r_cur F X D hx (wpAny_Constant_str (getItem_tk D ht hv (he _ _ F fun t' tk => SB.iadd (fun t'' k' => ?_) (by rw [sizeLine_eq]; omega)))) hk hy)
  exact setItem_tk (s := { s with toks := k' }) F D ht hlen fun h' o' F' D' ho => h _ _ _ _ F' D' ho
theorem op_tokauglit {key x z : Str} {t : Tok} {k k' : Nat} {p1 p2 p3 p4 p5 p6 : Pos} {kvs : List (Str × Value)} (F : Fr h₀ L s.heap m) (X : (Mine.hd.heap_1 w.params).In h₀) (D : Ld h₀ L s.heap (led w.params c d ++ rest)) (hx : m "self" = some (.ref c.r))
    (ht : d.ot.IsDictOf (strKind prog w) kvs) (hlen : kvs.length ≤ 100) (hv : valueAt kvs key = some (.str x t)) (hsz : x.length + z.length ≤ 100000)
    (h : ∀ h' tk o' t, Fr h₀ L h' m → Ld h₀ L h' (led w.params c { d with ot := o' } ++ rest) → o'.IsDictOf (strKind prog w) (stored kvs key (.str (x ++ z) t)) → Q .next { s with heap := h', toks := tk })
    (hk : cs.kind = .function := by rfl) (hy : (envOf cn cs L a cd).kindOf "self" = some .local := by rfl) :
    wpAny (model prog w) A (exec (.AugAssign (.Subscript (.Attribute (.Name "self" p1) "currentToken" p2) (.Constant (.str key) k p3) p4) .Add (.Constant (.str z) k' p5) p6) (envOf cn cs L a cd)) Q E s :=
  op_tokaug F X D hx ht hlen hv hsz (fun s₁ Q _ q => wpAny_Constant_str (q _ _)) h hk hy
theorem op_tokaugvar {key x z y : Str} {t u : Tok} {k : Nat} {p1 p2 p3 p4 p5 p6 : Pos} {kvs : List (Str × Value)} (F : Fr h₀ L s.heap m) (X : (Mine.hd.heap_1 w.params).In h₀) (D : Ld h₀ L s.heap (led w.params c d ++ rest)) (hx : m "self" = some (.ref c.r)) (hm : m y = some (.str z u))
    (ht : d.ot.IsDictOf (strKind prog w) kvs) (hlen : kvs.length ≤ 100) (hv : valueAt kvs key = some (.str x t)) (hsz : x.length + z.length ≤ 100000)
    (h : ∀ h' tk o' t, Fr h₀ L h' m → Ld h₀ L h' (led w.params c { d with ot := o' } ++ rest) → o'.IsDictOf (strKind prog w) (stored kvs key (.str (x ++ z) t)) → Q .next { s with heap := h', toks := tk })
    (hk : cs.kind = .function := by rfl) (hy : (envOf cn cs L a cd).kindOf "self" = some .local := by rfl) (hz : (envOf cn cs L a cd).kindOf y = some .local := by rfl) (hd : (y == ("__debug__" : Str)) = false := by decide) :
    wpAny (model prog w) A (exec (.AugAssign (.Subscript (.Attribute (.Name "self" p1) "currentToken" p2) (.Constant (.str key) k p3) p4) .Add (.Name y p5) p6) (envOf cn cs L a cd)) Q E s :=
  op_tokaug F X D hx ht hlen hv hsz (fun s₁ Q F₁ q => ld F₁ hm (q u s₁.toks) hk hz hd) h hk hy

/-- self.tokenQueue.append(self.currentToken) -/
theorem op_emit {p1 p2 q1 q2 q3 q4 q5 : Pos} (F : Fr h₀ L s.heap m) (X : (Mine.hd.heap_1 w.params).In h₀) (D : Ld h₀ L s.heap (led w.params c d ++ rest)) (hx : m "self" = some (.ref c.r))
    (hsz : d.vals.size ≤ 1000)
    (h : ∀ h' tk, Fr h₀ L h' m → Ld h₀ L h' (led w.params c { d with vals := d.vals.push (.ref c.tk), nq := d.nq + 1 } ++ rest) → Q .next { s with heap := h', toks := tk })
    (hk : cs.kind = .function := by rfl) (hy : (envOf cn cs L a cd).kindOf "self" = some .local := by rfl) :
    wpAny (model prog w) A (exec (.Expr (.Call (.Attribute (.Attribute (.Name "self" q1) "tokenQueue" q2) "append" q3) [.Attribute (.Name "self" p1) "currentToken" p2] [] q4) q5) (envOf cn cs L a cd)) Q E s := by
  refine op_append (Post := fun v r => v = .ref c.tk ∧ r = rest) F X D hx (fun s₁ E Q F₁ D₁ k => ?_) hsz (fun h' tk v rest' F' D' hp => ?_) rfl hk hy
  · exact r_cur F₁ X D₁ hx (k _ _ _ _ F₁ D₁ ⟨rfl, rfl⟩) hk hy
  · obtain ⟨rfl, rfl⟩ := hp
    exact h _ _ F' D'
end
end
end Mine
end
-- part LH
section
open PySem PySem.W PySem.Calls PyProof.Rows
set_option Elab.async false
set_option maxRecDepth 100000
namespace Mine
noncomputable section

theorem callWith_K1 {M : Model} {A : Around} {E : Value → Shared → Prop} {s : Shared} {K : Frag} {pos : Pos} {f : Value} {first : List Value} {Q : Value → Shared → Prop} {t : Sem Value} (hk : keepIn K f = true)
    (h : wpAny M A t (fun v s₁ => K.In s₁.heap ∧ wpAny M A (call f (first ++ [v])) Q E s₁) E s) : wpAny M A (callWith pos f first [(false, t)] []) Q E s :=
  callWith_of rfl (keeps_K hk) (evalArgs_plain (spliced_cons (wpAny_mono h (fun _ _ h₁ => spliced_nil h₁) fun _ _ x => x)))

theorem seqIndex_ok {i : Int} {n : Nat} (h0 : 0 ≤ i) (h : i < (n : Int)) : seqIndex? i n = some i.toNat := by
  have q1 : ¬ i < 0 := by omega
  have q2 : (decide (0 ≤ i) && decide (i < (n : Int))) = true := by
    rw [decide_eq_true h0, decide_eq_true h]; rfl
  show (if (decide (0 ≤ (if i < 0 then i + (n : Int) else i)) && decide ((if i < 0 then i + (n : Int) else i) < (n : Int))) = true then some (if i < 0 then i + (n : Int) else i).toNat else none) = _
  rw [if_neg q1, if_pos q2]

section
variable {prog : Program} {w : World} {A : Around} {E : Value → Shared → Prop} {s : Shared} {h₀ : Heap} {L a : Addr} {m : Str → Option Value} {news news' : List (Addr × Obj)}
  {R : Result → Shared → Prop} {p : Program} {loose : List Str} {mg mb : Str → Option Value} {cn : Str} {cs : Scope} {cd : Value}

/-- an item of a text at a place that lies in it -/
theorem str_item {value slice : Expr} {x : Str} {t u : Tok} {i : Int} {c : Nat} {Q : Value → Shared → Prop} (h0 : 0 ≤ i) (hb : i < 2 ^ 62) (hc : x.cps[i.toNat]? = some c) (h : Q (.str (one c) s.toks) { s with toks := s.toks + 1 })
    (hs : subscripted slice false (.str x t) (.int i u) = operate [.str x t, .int i u] (getItem (.str x t) (.int i u)) := by with_unfolding_all rfl) (ht : ∀ r, letTemporaryGo value (.str x t) r = pure () := by intro _; with_unfolding_all rfl) :
    wpAny (model prog w) A (subscriptTail value slice (.str x t) (.int i u)) Q E s := by
  refine subscriptTail_builtin (typeIs_str _ _ _) PySem.F.slot_str_getitem.lookup (P.getItem_str (c := c) ?_ ?_ h) hs ht
  · simp only [Bool.or_eq_false_iff, decide_eq_false_iff_not]; omega
  · have hl : i.toNat < x.cps.size := (Array.getElem?_eq_some_iff.mp hc).1
    have hl' : i.toNat < x.length := hl
    rw [seqIndex_ok h0 (by omega)]
    exact hc

theorem unget_in {st sd : Addr} {T : Nat → Tok} {d : SD} {n c : Nat} {tc : Tok} {news' : Tok → List (Addr × Obj)} (hA : Room A 1) (F : Fr h₀ L s.heap m) (N : News h₀ L s.heap news) (X : (Mine.hd.heap_1 w.params).In h₀) (T₀ : TopRead p loose mg mb h₀)
    (h1 : (st, instObj 166 sd) ∈ news) (h2 : (sd, dictOf (sE w.params T d) n) ∈ news) (U : ∀ u, Upd sd (dictOf (sE w.params T d) n) (dictOf (sE w.params T { d with off := d.off - 1, ot := u }) n) news (news' u))
    (h3 : ∀ u, (st, instObj 166 sd) ∈ news' u) (h4 : ∀ u, (sd, dictOf (sE w.params T { d with off := d.off - 1, ot := u }) n) ∈ news' u)
    (h0 : 0 < d.off) (hbig : d.off < 2 ^ 60) (hc : d.chunk.cps[(d.off - 1).toNat]? = some c)
    (hR : ∀ u h' tk, Fr h₀ L h' m → News h₀ L h' (news' u) → R (.ok (.ret .none)) { s with heap := h', toks := tk })
  : codeAny (model prog w) A (.call (.ref 163) ⟨[.ref st, .str (one c) tc], []⟩) R s := by
  refine call_M (binds := [("self", .ref st), ("char", .str (one c) tc)]) hA.lt F N X T₀ (f := 163) (by k_is) (by k_is) (BindsTo.of_eq rfl) (locs rfl) (fun g L' h₁ F₁ N₁ X₁ T₁ lt => ?_) (by decide)
  refine wpAny_execs_cons (wpAny_If (wpAny_isTrue_Compare1 (ld F₁ rfl (name_K F₁ X₁ T₁ g_eof (isNot_none (wpAny_truthy_bool ?_))))))
  have e : (!((Value.str (one c) tc) == .none)) = true := rfl
  rw [e, if_pos rfl]
  refine wpAny_execs_cons (wpAny_If (wpAny_isTrue_Compare1 (s_off F₁ X₁ N₁ rfl h1 h2 (wpAny_Constant_int (eq_int (wpAny_truthy_bool ?_))))))
  have e2 : (d.off == (0 : Int)) = false := by rw [beq_eq_false_iff_ne]; omega
  rw [e2, if_neg Bool.false_ne_true]
  refine wpAny_execs_cons (wpAny_AugAssign_AttributeAny (ld F₁ rfl (get_own F₁ X₁ (InstAt.of_news N₁ h1 h2) (cs_get _) cs_dict cs_off no_none (sE_off _ _ _) rfl (wpAny_Constant_int (isub_int (s_setoff (news' := news') F₁ X₁ N₁ h1 h2 U fun h₂ F₂ N₂ => ?_))))))
  refine wpAny_execs_cons (wpAny_Assert_holds (wpAny_isTrue_Compare1 (Subscript_ (s_chunk F₂ X₁ N₂ rfl (h3 _) (h4 _) (s_off F₂ X₁ N₂ rfl (h3 _) (h4 _) (str_item (c := c) (by show 0 ≤ d.off - 1; omega) (by show d.off - 1 < _; omega) hc ?_))))))
  refine ld F₂ rfl (eq_str (wpAny_truthy_bool ⟨by simp, ?_⟩))
  refine wpAny_execs_nil (wpAny_execs_nil (wpAny_execs_nil ?_))
  exact leaveK_ F₂ N₂ fun F₅ N₅ => hR _ _ _ F₅ N₅
end

section
variable {prog : Program} {w : World} {A : Around} {E : Value → Shared → Prop} {s : Shared} {h₀ : Heap} {L a : Addr} {m : Str → Option Value} {rest : List (Addr × Obj)}
  {p : Program} {loose : List Str} {mg mb : Str → Option Value} {cn : Str} {cs : Scope} {cd : Value} {c : Cx} {d : Dy} {Q : Flow → Shared → Prop}
/-- self.stream.unget(data) -/
theorem op_unget {x : Str} {p1 p2 p3 p4 p5 p6 : Pos} {ch : Nat} {tc : Tok} (hA : Room A 1) (F : Fr h₀ L s.heap m) (X : (Mine.hd.heap_1 w.params).In h₀) (T₀ : TopRead p loose mg mb h₀) (D : Ld h₀ L s.heap (led w.params c d ++ rest)) (hx : m "self" = some (.ref c.r)) (hv : m x = some (.str (one ch) tc))
    (h0 : 0 < d.sd.off) (hbig : d.sd.off < 2 ^ 60) (hc : d.sd.chunk.cps[(d.sd.off - 1).toNat]? = some ch)
    (h : ∀ h' tk u, Fr h₀ L h' m → Ld h₀ L h' (led w.params c { d with sd := { d.sd with off := d.sd.off - 1, ot := u } } ++ rest) → Q .next { s with heap := h', toks := tk })
    (hk : cs.kind = .function := by rfl) (hy : (envOf cn cs L a cd).kindOf "self" = some .local := by rfl) (hz : (envOf cn cs L a cd).kindOf x = some .local := by rfl) (hd : (x == ("__debug__" : Str)) = false := by decide) :
    wpAny (model prog w) A (exec (.Expr (.Call (.Attribute (.Attribute (.Name "self" p1) "stream" p2) "unget" p3) [.Name x p4] [] p5) p6) (envOf cn cs L a cd)) Q E s := by
  refine wpAny_Expr (MCallA (fun pl pq => r_stream F X D hx ?_ hk hy)) (by unfold interactive; rw [show (envOf cn cs L a cd).scope.kind = .function from hk]; rfl)
  refine method_inst F X (InstAt.of_news D.N m_st m_sd) (cs_get _) cs_unget fn_unget (sE_unget _ _) ?_
  show wpAny (model prog w) A (callWith pq (.ref 163) [.ref c.st] [(false, eval (.Name x p4) (envOf cn cs L a cd))] []) _ E _
  refine callWith_K1 kp_unget (ld F hv ⟨X.keeps F.keep, wpAny_call ?_⟩ hk hz hd)
  exact unget_in (news' := fun u => led w.params c { d with sd := { d.sd with off := d.sd.off - 1, ot := u } } ++ rest) hA F D.N X T₀ m_st m_sd (fun u => upd_s D.nd _ _) (fun _ => m_st) (fun u => m_sd (d := { d with sd := { d.sd with off := d.sd.off - 1, ot := u } })) h0 hbig hc fun u h' tk F' N' => h _ _ _ F' ⟨N', nd_led D.nd _⟩
end
end
end Mine
end
-- part LI
section
open PySem PySem.W PySem.Calls PyProof.Rows
set_option Elab.async false
set_option maxRecDepth 100000
namespace Mine
noncomputable section

theorem paired_texts {x : Str} {f : Nat → Str} : ∀ (l : List Nat) (vs ys : List Value), vs.length = l.length → (∀ (j : Nat) (v : Value), vs[j]? = some v → ∃ (c : Nat) (u : Tok), l[j]? = some c ∧ v = Value.str (one c) u) →
    Paired (fun v r => ∀ c u, v = Value.str (one c) u → ∃ t, r = Value.str (f c) t) vs ys → ∃ ts : List (Str × Tok), ys = strValues ts ∧ ts.map (·.1) = l.map f
  | [], [], _, _, _, h => by cases h; exact ⟨[], rfl, rfl⟩
  | [], _ :: _, _, h, _, _ => by cases h
  | _ :: _, [], _, h, _, _ => by cases h
  | c :: l, v :: vs, ys, hl, hg, h => by
    cases h with
    | cons h1 h2 =>
      rename_i r ys'
      obtain ⟨ts, rfl, e⟩ := paired_texts (x := x) l vs ys' (by simpa using hl) (fun j u hu => by simpa using hg (j + 1) u (by simpa using hu)) h2
      obtain ⟨c', u, hc, rfl⟩ := hg 0 v rfl
      simp only [List.getElem?_cons_zero, Option.some.injEq] at hc
      subst hc
      obtain ⟨t, rfl⟩ := h1 _ _ rfl
      exact ⟨(f c, t) :: ts, rfl, by simp [e]⟩

section
variable {prog : Program} {w : World} {A : Around} {E : Value → Shared → Prop} {s : Shared} {env : Env}

/-- a comprehension over the signs of a text, without tests -/
theorem comp_str {elt iter : Expr} {x : Str} {px : Pos} {scope : Scope} {pos : Pos} {y : Str} {t : Tok} {f : Nat → Str} {Q : Value → Shared → Prop}
    (hh : A.handled = none) (hfree : ∀ y ∈ scope.names, y.2 ≠ .free) (hcell : ∀ y ∈ scope.names, y.2 ≠ .cell) (hkind : scope.kind = .function)
    (hnames : ∀ y ∈ scope.names, y.2 = .local → scope.names.lookup y.1 = some .local) (hx : scope.names.lookup x = some .local)
    (hy : y.length ≤ sizeLine)
    (h : wpAny (model prog w) A (eval iter env) (fun xv s₁ => xv = .str y t ∧
      (∀ C ch u s₃ m₃ E', s₃.heap.Ns C m₃ → m₃ x = some (.str (one ch) u) → (∀ b o, s₁.heap.get? b = some o → s₃.heap.get? b = some o) →
        wpAny (model prog w) A (eval elt (compEnv scope C env)) (fun r s₄ => (∃ t, r = .str (f ch) t) ∧ Keeps s₃ s₄) E' s₃) ∧
      (∀ D ts h' tk, s₁.heap.get? D = none → h'.IsList D (strValues ts).toArray → ts.map (·.1) = y.cps.toList.map f → (∀ b o, s₁.heap.get? b = some o → h'.get? b = some o) → Q (.ref D) { s₁ with heap := h', toks := tk })) E s)
    (hs : ∀ x, foldedSetIterable iter env x = pure x := by intro _; rfl) :
    wpAny (model prog w) A (eval (.ListComp elt [⟨.Name x px, iter, [], 0⟩] scope pos) env) Q E s := by
  refine wpAny_ListComp_walk (fun _ => true) (fun v r => ∀ c u, v = .str (one c) u → ∃ t, r = .str (f c) t) hfree hcell hkind hnames hx (wpAny_mono h (fun xv s₁ h₁ => ?_) fun _ _ e => e) hs
  obtain ⟨rfl, helt, hQ⟩ := h₁
  refine wpAny_pyIter_str fun o St W hst => ?_
  have up : ∀ (h' : Heap), (∀ b o', b ∉ [s₁.heap.objs.size] → (s₁.heap.push o).get? b = some o' → h'.get? b = some o') → ∀ b o', s₁.heap.get? b = some o' → h'.get? b = some o' :=
    fun h' hk b o' e => hk b o' (old_not_new e) (Heap.get?_push_of_some _ e)
  refine ⟨s₁.heap.objs.size, [s₁.heap.objs.size], [s₁.heap.objs.size], y.cps.size, SignAt y, St, rfl, W A hh, hy, hst, ?_, ⟨?_, ?_⟩, ?_⟩
  · intro b hb
    show b < (s₁.heap.push o).objs.size
    rw [Heap.size_push, List.mem_singleton.mp hb]
    exact Nat.lt_succ_self _
  · intro C i v s₃ m₃ E' hP hn hm hk _
    exact wpAny_tests_nil ⟨rfl, s₃.heap, s₃.toks, rfl, fun _ _ e => e⟩
  · intro C i v s₃ m₃ E' hP hp hn hm hk _
    obtain ⟨c, u, _, rfl⟩ := hP
    refine wpAny_mono (helt C c u s₃ m₃ E' hn hm (up s₃.heap hk)) (fun r s₄ h₄ => ⟨fun c' u' e => ?_, h₄.2⟩) fun _ _ e => e
    have : c = c' := by
      injection e with e1 _
      have := congrArg (fun x : Str => x.cps[0]!) e1
      simpa [one] using this
    exact this ▸ h₄.1
  · intro D h' tk ys vs hnew hlD hplD hlen hP hF hk
    have hF' : Paired (fun v r => ∀ c u, v = .str (one c) u → ∃ t, r = .str (f c) t) vs ys.toList := by
      have e : vs.filter (fun _ => true) = vs := List.filter_eq_self.mpr fun _ _ => rfl
      rw [e] at hF; exact hF
    obtain ⟨ts, e1, e2⟩ := paired_texts (x := x) y.cps.toList vs ys.toList (by simpa using hlen) (fun j v hv => by
      obtain ⟨c, u, hc, e⟩ := hP j v hv
      exact ⟨c, u, by simpa using hc, e⟩) hF'
    refine hQ D ts h' tk ?_ (by rw [← e1, Array.toArray_toList]; exact hlD) e2 (up h' hk)
    cases q : s₁.heap.get? D with
    | none => rfl
    | some o' => rw [Heap.get?_push_of_some _ q] at hnew; cases hnew
end

theorem MCallC {cst : Const} {ck : Nat} {name : Str} {fp apos pos : Pos} {args : List Expr} {Q : Value → Shared → Prop} {M : Model} {A : Around} {E : Value → Shared → Prop} {s : Shared} {env : Env}
    (h : ∀ pl pos', wpAny M A (eval (.Constant cst ck fp) env) (fun ov s₁ => wpAny M A (getMethod ov name pl) (fun fx s₂ => wpAny M A (callWith pos' fx.1 fx.2 (backTo pos (starEach args env)) []) Q E s₂) E s₁) E s)
    (hl : methodCallForm (args.length + 0) (backTo pos (starEach args env)) [] = true := by rfl) :
    wpAny M A (eval (.Call (.Attribute (.Constant cst ck fp) name apos) args [] pos) env) Q E s := by
  show wpAny M A (eval (.Constant cst ck fp) env >>= fun ov => standAt apos.atName >>= fun _ => methodCall _ _ _ _ _ _ _ _ _) Q E s
  obtain ⟨pos', hp⟩ : ∃ pos', methodCallPos true (.Constant cst ck fp) env apos pos = pure pos' := by
    unfold methodCallPos
    by_cases q : (apos.endLine == pos.line) = true
    · exact ⟨_, by rw [q]; rfl⟩
    · refine ⟨{ pos with line := apos.endLine }, ?_⟩
      simp [q]
      rfl
  refine wpAny_bind (wpAny_mono (h (importBound (.Constant cst ck fp) env >>= fun r => pure (r.getD true)) pos') (fun ov s₁ h₁ => wpAny_bind (wpAny_standAt ?_)) fun _ _ x => x)
  unfold methodCall
  have e : methodCallForm (args.length + ([] : List Keyword).length) (backTo pos (starEach args env)) (backToKw pos (keywordEach [] env)) = true := hl
  rw [e]
  refine wpAny_bind (wpAny_holding (wpAny_mono h₁ (fun fx s₂ h₂ => ?_) fun _ _ x => x))
  dsimp only
  rw [hp]
  exact wpAny_bind (wpAny_pure h₂)

noncomputable def lowC (c : Nat) : Nat := if 65 ≤ c ∧ c ≤ 90 then c + 32 else c
noncomputable def lowS (y : Str) : Str := ⟨(y.cps.toList.map lowC).toArray⟩
theorem join_ones (f : Nat → Nat) : ∀ l : List Nat, Str.join (Str.ofString "") (l.map fun c => one (f c)) = ⟨(l.map f).toArray⟩
  | [] => rfl
  | [c] => rfl
  | c :: d :: l => by
    have ih := join_ones f (d :: l)
    show one (f c) ++ Str.ofString "" ++ Str.join (Str.ofString "") ((d :: l).map fun c => one (f c)) = _
    rw [ih]
    apply Str.ext'
    have e0 : (Str.ofString "").cps = #[] := rfl
    simp [one, Str.cps_append, e0]
theorem join_ones' (f : Nat → Nat) (l : List Nat) : Txt.join (Str.ofString "") (l.map fun c => one (f c)) = ⟨(l.map f).toArray⟩ := by
  rw [show Txt.join (Str.ofString "") (l.map fun c => one (f c)) = Str.join (Str.ofString "") (l.map fun c => one (f c)) from StrLaws.glued_eq_join _ _]
  exact join_ones f l
theorem callWith_b1 {M : Model} {A : Around} {E : Value → Shared → Prop} {s : Shared} {env : Env} {pos pos' : Pos} {id : String} {first : List Value} {e : Expr} {Q : Value → Shared → Prop}
    (h : wpAny M A (eval e env) (fun v s₁ => wpAny M A (call (.builtin id) (first ++ [v])) Q E s₁) E s) (he : starEach [e] env = [(false, eval e env)] := by rfl) :
    wpAny M A (callWith pos (.builtin id) first (backTo pos' (starEach [e] env)) []) Q E s := by
  rw [he]
  exact callWith_builtin rfl (evalArgs_plain (spliced_cons (wpAny_mono h (fun _ _ q => spliced_nil q) fun _ _ x => x)))
theorem callWith_k1 {M : Model} {A : Around} {E : Value → Shared → Prop} {s : Shared} {env : Env} {pos pos' : Pos} {K : Frag} {f : Value} {first : List Value} {e : Expr} {Q : Value → Shared → Prop} (hk : keepIn K f = true)
    (h : wpAny M A (eval e env) (fun v s₁ => K.In s₁.heap ∧ wpAny M A (call f (first ++ [v])) Q E s₁) E s) (he : starEach [e] env = [(false, eval e env)] := by rfl) :
    wpAny M A (callWith pos f first (backTo pos' (starEach [e] env)) []) Q E s := by
  rw [he]
  exact callWith_K1 hk h
theorem le_one (a b : Nat) : (!decide ((one b).cps.toList < (one a).cps.toList)) = decide (a ≤ b) := by
  show (!decide ([b] < [a])) = _
  by_cases h : a ≤ b
  · rw [decide_eq_true h]
    have : ¬ ([b] < [a]) := by
      intro q
      cases q with
      | rel q => exact absurd q (Nat.not_lt.mpr h)
      | cons q => cases q
    simp [this]
  · rw [decide_eq_false h]
    have : [b] < [a] := List.Lex.rel (Nat.lt_of_not_le h)
    simp [this]

section
variable {prog : Program} {w : World} {A : Around} {E : Value → Shared → Prop} {s : Shared} {h₀ : Heap} {L a : Addr} {m : Str → Option Value} {news : List (Addr × Obj)}
  {R : Result → Shared → Prop} {p : Program} {loose : List Str} {mg mb : Str → Option Value}

/-- a built-in's name, read in a comprehension's frame -/
theorem name_BC {M : Model} {K : Frag} {env : Env} {sc : Scope} {C : Addr} {h : Heap} {x : Str} {pos : Pos} {v : Value} {Q : Value → Shared → Prop} (X : K.In h) (T : TopRead p loose mg mb h) (hk' : ∀ b o, h.get? b = some o → s.heap.get? b = some o)
    (e : nsIn K mainGlobals x = some none) (hv : bootBuiltins x = some v) (hn : x ≠ "__name__") (h : Q v s)
    (hk : (compEnv sc C env).scope.kind = .function) (hx : (compEnv sc C env).kindOf x = some .globalImplicit) (hg : env.globals = mainGlobals) (hb : env.builtins = builtinsNs) (hd : (x == ("__debug__" : Str)) = false := by decide) :
    wpAny M A (eval (.Name x pos) (compEnv sc C env)) Q E s :=
  Name_function_global hk hx (loadGlobal_builtin (env := compEnv sc C env) (by show s.heap.Ns env.globals mg; rw [hg]; exact T.g.keeps hk') (mg_none_of X T.g e) (by show s.heap.Ns env.builtins mb; rw [hb]; exact T.b.keeps hk') ((T.builtins x hn).trans hv) h) hd

theorem ldC {env : Env} {sc : Scope} {C : Addr} {x : Str} {pos : Pos} {v : Value} {m : Str → Option Value} {Q : Value → Shared → Prop} {M : Model} (hn : s.heap.Ns C m) (hv : m x = some v) (h : Q v s) (hk : (compEnv sc C env).scope.kind = .function := by rfl) (hl : (compEnv sc C env).kindOf x = some .local := by rfl)
    (hd : (x == ("__debug__" : Str)) = false := by decide) : wpAny M A (eval (.Name x pos) (compEnv sc C env)) Q E s := wpAny_Name (wpAny_loadName_local hk hl hn hv h) hd

set_option maxHeartbeats 2000000 in
theorem lower_in {y : Str} {t : Tok} (hA : Room A 2) (F : Fr h₀ L s.heap m) (N : News h₀ L s.heap news) (X : (Mine.hd.heap_1 w.params).In h₀) (T₀ : TopRead p loose mg mb h₀) (hy : y.length ≤ 10000)
    (hR : ∀ t h' tk, Fr h₀ L h' m → News h₀ L h' news → R (.ok (.ret (.str (lowS y) t))) { s with heap := h', toks := tk })
  : codeAny (model prog w) A (.call (.ref 42) ⟨[.str y t], []⟩) R s := by
  refine call_M (binds := [("text", .str y t)]) hA.lt F N X T₀ (f := 42) (by k_is) (by k_is) (BindsTo.of_eq rfl) (locs rfl) (fun g L' h₁ F₁ N₁ X₁ T₁ lt => ?_) (by decide)
  refine wpAny_execs_cons (wpAny_Return_some ?_)
  refine MCallC ?b1 ?b2
  case b2 => rfl
  intro pl pq
  refine wpAny_Constant_str ?_
  with_reducible refine GM.join ?_
  refine callWith_b1 ?_
  refine comp_str (f := fun c => one (lowC c)) (y := y) (t := t) hA.handled (by decide +kernel) (by decide +kernel) rfl (by decide +kernel) rfl (by rw [sizeLine_eq]; omega) (ld F₁ rfl ⟨rfl, ?_, ?_⟩)
  · intro C ch u s₃ m₃ E' hn hm hk₃
    have XS := X₁.keeps F₁.keep
    have TS := T₁.keeps F₁.keep
    refine wpAny_IfExp (isTrue_chain (wpAny_Constant_str (test_link (ldC hn hm (P.le_str (wpAny_truthy_bool ?_))))))
    rw [show (Str.ofString "A" : Str) = one 65 from rfl, le_one]
    by_cases h1 : 65 ≤ ch
    · rw [decide_eq_true h1, if_pos rfl]
      refine test_last (wpAny_Constant_str (P.le_str (wpAny_truthy_bool ?_)))
      rw [show (Str.ofString "Z" : Str) = one 90 from rfl, le_one]
      by_cases h2 : ch ≤ 90
      · rw [decide_eq_true h2, if_pos rfl]
        refine Call_ ?_
        refine name_BC (x := "chr") (K := Mine.hd.heap_1 w.params) XS TS hk₃ (by k_is) (by boot_fast) (by decide) ?_ rfl rfl rfl rfl
        refine callWith_b1 ?_
        refine wpAny_BinOp (Call_ ?_)
        refine name_BC (x := "ord") (K := Mine.hd.heap_1 w.params) XS TS hk₃ (by k_is) (by boot_fast) (by decide) ?_ rfl rfl rfl rfl
        refine callWith_b1 (ldC hn hm (P.ord_of_char ?_))
        refine wpAny_Constant_int (PyProof.Rows.add_int ?_)
        have e3 : (⟨#[((ch : Int) + 32).toNat]⟩ : Str) = one (lowC ch) := by
          have e : lowC ch = ch + 32 := if_pos ⟨h1, h2⟩
          have e2 : ((ch : Int) + 32).toNat = ch + 32 := by omega
          rw [e, e2]; rfl
        refine P.chr_of_int ?_ ?_
        · simp only [Bool.or_eq_false_iff, decide_eq_false_iff_not]; omega
        refine ⟨⟨_, congrArg (fun z => Value.str z _) e3⟩, ?_⟩
        exact ⟨s₃.heap, _, rfl, fun _ _ e => e⟩
      · rw [decide_eq_false h2, if_neg Bool.false_ne_true]
        refine ldC hn hm ⟨⟨u, ?_⟩, s₃.heap, _, rfl, fun _ _ e => e⟩
        rw [show lowC ch = ch from if_neg fun q => h2 q.2]
    · rw [decide_eq_false h1, if_neg Bool.false_ne_true]
      rw [if_neg Bool.false_ne_true]
      refine ldC hn hm ⟨⟨u, ?_⟩, s₃.heap, _, rfl, fun _ _ e => e⟩
      rw [show lowC ch = ch from if_neg fun q => h1 q.1]
  · intro D ts h' tk hnew hl ht hk'
    refine SC.join (texts := ts.map (·.1)) hl rfl ?_ fun t' k => ?_
    · rw [ht]
      have e : y.cps.toList.length = y.length := by simp [Str.length]
      have q := StrLaws.joinFits (sep := Str.ofString "") (texts := y.cps.toList.map fun c => one (lowC c)) (B := 1) (fun z hz => by
        obtain ⟨c, _, rfl⟩ := List.mem_map.mp hz; exact Nat.le_refl _) (by rw [List.length_map, e]; show _ + _ * 0 ≤ _; omega)
      unfold JoinOk
      rw [q]; rfl
    · rw [ht, join_ones']
      exact leaveK_ (F₁.keeps hk') (N₁.grown hk') fun F₅ N₅ => hR _ _ _ F₅ N₅
end
end
end Mine
end
-- part LJ
section
open PySem PySem.W PySem.Calls PyProof.Rows
set_option Elab.async false
set_option maxRecDepth 100000
namespace Mine
noncomputable section
theorem kp_lower {P : Params} : keepIn (Mine.hd.heap_1 P) (.ref 42) = true := by k_is

section
variable {prog : Program} {w : World} {A : Around} {E : Value → Shared → Prop} {s : Shared} {h₀ : Heap} {L a : Addr} {m : Str → Option Value} {rest : List (Addr × Obj)}
  {p : Program} {loose : List Str} {mg mb : Str → Option Value} {cn : Str} {cs : Scope} {cd : Value} {c : Cx} {d : Dy} {Q : Flow → Shared → Prop}

/-- an item of a dict that stands as a field, by a literal key -/
theorem tok_item {key : Str} {k : Nat} {p1 p2 p3 p4 : Pos} {kvs : List (Str × Value)} {v : Value} {Q : Value → Shared → Prop} (F : Fr h₀ L s.heap m) (X : (Mine.hd.heap_1 w.params).In h₀) (D : Ld h₀ L s.heap (led w.params c d ++ rest)) (hx : m "self" = some (.ref c.r))
    (ht : d.ot.IsDictOf (strKind prog w) kvs) (hv : valueAt kvs key = some v)
    (h : ∀ tk, Q v { s with toks := tk })
    (hk : cs.kind = .function := by rfl) (hy : (envOf cn cs L a cd).kindOf "self" = some .local := by rfl) :
    wpAny (model prog w) A (eval (.Subscript (.Attribute (.Name "self" p1) "currentToken" p2) (.Constant (.str key) k p3) p4) (envOf cn cs L a cd)) Q E s := by
  refine Subscript_ (r_cur F X D hx (wpAny_Constant_str ?_) hk hy)
  have hT : s.heap.DictOf (strKind prog w) c.tk kvs := Heap.dictOf_iff.mpr ⟨_, (D.N _ m_tk).1, ht⟩
  exact tail_any (ops := [.ref c.tk, .str key (s.toks + 1)]) hT.mapOf.typeIs slot_dict_getitem.lookup (getItem_tk D ht hv (h _)) rfl

/-- self.currentToken['name'] = asciiLower(self.currentToken['name']) -/
theorem op_lower {key y : Str} {t : Tok} {k k' : Nat} {p1 p2 p3 p4 p6 q1 q2 q3 q4 q5 q6 : Pos} {kvs : List (Str × Value)} (hA : Room A 2) (F : Fr h₀ L s.heap m) (X : (Mine.hd.heap_1 w.params).In h₀) (T₀ : TopRead p loose mg mb h₀) (D : Ld h₀ L s.heap (led w.params c d ++ rest)) (hx : m "self" = some (.ref c.r))
    (ht : d.ot.IsDictOf (strKind prog w) kvs) (hlen : kvs.length ≤ 100) (hv : valueAt kvs key = some (.str y t)) (hy' : y.length ≤ 10000)
    (h : ∀ h' tk o' t, Fr h₀ L h' m → Ld h₀ L h' (led w.params c { d with ot := o' } ++ rest) → o'.IsDictOf (strKind prog w) (stored kvs key (.str (lowS y) t)) → Q .next { s with heap := h', toks := tk })
    (hk : cs.kind = .function := by rfl) (hy : (envOf cn cs L a cd).kindOf "self" = some .local := by rfl) (hz : (envOf cn cs L a cd).kindOf "asciiLower" = some .globalImplicit := by rfl) :
    wpAny (model prog w) A (exec (.Assign [.Subscript (.Attribute (.Name "self" p1) "currentToken" p2) (.Constant (.str key) k p3) p4] (.Call (.Name "asciiLower" q1) [.Subscript (.Attribute (.Name "self" q2) "currentToken" q3) (.Constant (.str key) k' q4) q5] [] q6) p6) (envOf cn cs L a cd)) Q E s := by
  refine wpAny_Assign_Subscript (Call_ ?_)
  refine name_K F X T₀ g_lower ?_ hk hz
  refine callWith_k1 (K := Mine.hd.heap_1 w.params) kp_lower ?_
  refine tok_item F X D hx ht hv (fun tk => ⟨X.keeps F.keep, wpAny_call ?_⟩) hk hy
  refine lower_in hA F D.N X T₀ hy' fun t' h' tk' F' N' => ?_
  exact tok_fin (s := { s with heap := h', toks := tk' }) F' X ⟨N', D.nd⟩ hx ht hlen (fun h' tk o' F' D' ho => h h' tk o' _ F' D' ho) hk hy
end
end
end Mine
end
-- part LK
section
open PySem PySem.W PySem.Calls PyProof.Rows
set_option Elab.async false
set_option maxRecDepth 100000
namespace Mine
noncomputable section

/-- the states that a doctype goes through -/
inductive DS where
  | data | doctype | beforeName | name | afterName | afterPub | beforePub | pubD | pubS | afterPubId | between | afterSys | beforeSys | sysD | sysS | afterSysId | bogus
def DS.fn : DS → Addr
  | .data => 304 | .doctype => 654 | .beforeName => 661 | .name => 668 | .afterName => 675 | .afterPub => 682 | .beforePub => 689 | .pubD => 696 | .pubS => 703
  | .afterPubId => 710 | .between => 717 | .afterSys => 724 | .beforeSys => 731 | .sysD => 738 | .sysS => 745 | .afterSysId => 752 | .bogus => 759
def DS.nm : DS → Str
  | .data => "dataState" | .doctype => "doctypeState" | .beforeName => "beforeDoctypeNameState" | .name => "doctypeNameState" | .afterName => "afterDoctypeNameState"
  | .afterPub => "afterDoctypePublicKeywordState" | .beforePub => "beforeDoctypePublicIdentifierState" | .pubD => "doctypePublicIdentifierDoubleQuotedState" | .pubS => "doctypePublicIdentifierSingleQuotedState"
  | .afterPubId => "afterDoctypePublicIdentifierState" | .between => "betweenDoctypePublicAndSystemIdentifiersState" | .afterSys => "afterDoctypeSystemKeywordState"
  | .beforeSys => "beforeDoctypeSystemIdentifierState" | .sysD => "doctypeSystemIdentifierDoubleQuotedState" | .sysS => "doctypeSystemIdentifierSingleQuotedState"
  | .afterSysId => "afterDoctypeSystemIdentifierState" | .bogus => "bogusDoctypeState"
theorem st_fn (P : Params) : ∀ x : DS, StFn P x.nm x.fn
  | .data => ⟨by k_is, by k_is, by decide +kernel, fun _ _ _ _ _ _ => by kernel_rfl⟩
  | .doctype => ⟨by k_is, by k_is, by decide +kernel, fun _ _ _ _ _ _ => by kernel_rfl⟩
  | .beforeName => ⟨by k_is, by k_is, by decide +kernel, fun _ _ _ _ _ _ => by kernel_rfl⟩
  | .name => ⟨by k_is, by k_is, by decide +kernel, fun _ _ _ _ _ _ => by kernel_rfl⟩
  | .afterName => ⟨by k_is, by k_is, by decide +kernel, fun _ _ _ _ _ _ => by kernel_rfl⟩
  | .afterPub => ⟨by k_is, by k_is, by decide +kernel, fun _ _ _ _ _ _ => by kernel_rfl⟩
  | .beforePub => ⟨by k_is, by k_is, by decide +kernel, fun _ _ _ _ _ _ => by kernel_rfl⟩
  | .pubD => ⟨by k_is, by k_is, by decide +kernel, fun _ _ _ _ _ _ => by kernel_rfl⟩
  | .pubS => ⟨by k_is, by k_is, by decide +kernel, fun _ _ _ _ _ _ => by kernel_rfl⟩
  | .afterPubId => ⟨by k_is, by k_is, by decide +kernel, fun _ _ _ _ _ _ => by kernel_rfl⟩
  | .between => ⟨by k_is, by k_is, by decide +kernel, fun _ _ _ _ _ _ => by kernel_rfl⟩
  | .afterSys => ⟨by k_is, by k_is, by decide +kernel, fun _ _ _ _ _ _ => by kernel_rfl⟩
  | .beforeSys => ⟨by k_is, by k_is, by decide +kernel, fun _ _ _ _ _ _ => by kernel_rfl⟩
  | .sysD => ⟨by k_is, by k_is, by decide +kernel, fun _ _ _ _ _ _ => by kernel_rfl⟩
  | .sysS => ⟨by k_is, by k_is, by decide +kernel, fun _ _ _ _ _ _ => by kernel_rfl⟩
  | .afterSysId => ⟨by k_is, by k_is, by decide +kernel, fun _ _ _ _ _ _ => by kernel_rfl⟩
  | .bogus => ⟨by k_is, by k_is, by decide +kernel, fun _ _ _ _ _ _ => by kernel_rfl⟩
end
end Mine
end
-- part LL
section
open PySem PySem.W PySem.Calls PyProof.Rows
set_option Elab.async false
set_option maxRecDepth 100000
namespace Mine
noncomputable section

/-- the token's values -/
noncomputable def tkl (v0 v1 v2 v3 v4 : Value) : List (Str × Value) := [("type", v0), ("name", v1), ("publicId", v2), ("systemId", v3), ("correct", v4)]
theorem tkl_name (v0 v1 v2 v3 v4) : valueAt (tkl v0 v1 v2 v3 v4) "name" = some v1 := by kernel_rfl
theorem tkl_pub (v0 v1 v2 v3 v4) : valueAt (tkl v0 v1 v2 v3 v4) "publicId" = some v2 := by kernel_rfl
theorem tkl_sys (v0 v1 v2 v3 v4) : valueAt (tkl v0 v1 v2 v3 v4) "systemId" = some v3 := by kernel_rfl
theorem tkl_sname (v0 v1 v2 v3 v4 v) : stored (tkl v0 v1 v2 v3 v4) "name" v = tkl v0 v v2 v3 v4 := by kernel_rfl
theorem tkl_spub (v0 v1 v2 v3 v4 v) : stored (tkl v0 v1 v2 v3 v4) "publicId" v = tkl v0 v1 v v3 v4 := by kernel_rfl
theorem tkl_ssys (v0 v1 v2 v3 v4 v) : stored (tkl v0 v1 v2 v3 v4) "systemId" v = tkl v0 v1 v2 v v4 := by kernel_rfl
theorem tkl_sok (v0 v1 v2 v3 v4 v) : stored (tkl v0 v1 v2 v3 v4) "correct" v = tkl v0 v1 v2 v3 v := by kernel_rfl
theorem tkl_len (v0 v1 v2 v3 v4) : (tkl v0 v1 v2 v3 v4).length ≤ 100 := Nat.le_of_ble_eq_true rfl

structure Tk where
  (name : Str) (pub sys : Option Str) (ok : Bool)
noncomputable def OptV : Option Str → Value → Prop
  | none, v => v = .none
  | some x, v => ∃ t, v = .str x t

/-- the token's object -/
noncomputable def TokOk (prog : Program) (w : World) (k : Tk) (o : Obj) : Prop :=
  ∃ t0 t1 v2 v3, o.IsDictOf (strKind prog w) (tkl (.int 0 t0) (.str k.name t1) v2 v3 (.bool k.ok)) ∧ OptV k.pub v2 ∧ OptV k.sys v3

/-- the text that is left -/
noncomputable def TxOk (z x : SD) (r : List Nat) : Prop := ∃ ot pre, x = { z with off := ((pre : List Nat).length : Int), ot := ot } ∧ z.chunk.cps.toList = pre ++ r
theorem TxOk.step {z x : SD} {c : Nat} {r : List Nat} (h : TxOk z x (c :: r)) (u : Tok) : TxOk z { x with off := x.off + 1, ot := u } r := by
  obtain ⟨ot, pre, rfl, e⟩ := h
  refine ⟨u, pre ++ [c], ?_, by simp [e]⟩
  simp
theorem TxOk.char {z x : SD} {c : Nat} {r : List Nat} (h : TxOk z x (c :: r)) : x.chunk = z.chunk ∧ x.size = z.size ∧ 0 ≤ x.off ∧ x.off < z.chunk.length ∧ x.chunk.cps[x.off.toNat]? = some c := by
  obtain ⟨ot, pre, rfl, e⟩ := h
  refine ⟨rfl, rfl, by simp, ?_, ?_⟩
  · have : z.chunk.cps.toList.length = pre.length + (r.length + 1) := by rw [e]; simp
    have h2 : z.chunk.length = z.chunk.cps.toList.length := by simp [Str.length]
    show (pre.length : Int) < (z.chunk.length : Int)
    omega
  · show z.chunk.cps[(pre.length : Int).toNat]? = some c
    rw [← Array.getElem?_toList, e]
    simp
theorem TxOk.back {z x : SD} {c : Nat} {r : List Nat} (h : TxOk z x (c :: r)) (u v : Tok) : TxOk z { { x with off := x.off + 1, ot := u } with off := x.off + 1 - 1, ot := v } (c :: r) := by
  obtain ⟨ot, pre, rfl, e⟩ := h
  refine ⟨v, pre, ?_, e⟩
  simp

/-- the queue -/
noncomputable def QOk (prog : Program) (w : World) (vals : Array Value) (rest : List (Addr × Obj)) (faults : List Str) : Prop :=
  ∃ l : List (Addr × Obj), vals = (l.map fun p => Value.ref p.1).toArray ∧ (∀ p ∈ l, p ∈ rest) ∧ Paired (fun p f => ErrObj prog w p.2 f) l faults
theorem QOk.push {prog : Program} {w : World} {vals : Array Value} {rest : List (Addr × Obj)} {faults : List Str} {b : Addr} {o : Obj} {f : Str} (h : QOk prog w vals rest faults) (he : ErrObj prog w o f) :
    QOk prog w (vals.push (.ref b)) ((b, o) :: rest) (faults ++ [f]) := by
  obtain ⟨l, rfl, hm, hp⟩ := h
  refine ⟨l ++ [(b, o)], by simp, fun p hp' => ?_, hp.snoc he⟩
  rcases List.mem_append.mp hp' with q | q
  · exact .tail _ (hm p q)
  · rw [List.mem_singleton.mp q]; exact .head _
theorem QOk.mono {prog : Program} {w : World} {vals : Array Value} {rest rest' : List (Addr × Obj)} {faults : List Str} (h : QOk prog w vals rest faults) (hs : ∀ p ∈ rest, p ∈ rest') : QOk prog w vals rest' faults :=
  let ⟨l, a, b, c⟩ := h; ⟨l, a, fun p hp => hs p (b p hp), c⟩
theorem QOk.size {prog : Program} {w : World} {vals : Array Value} {rest : List (Addr × Obj)} {faults : List Str} (h : QOk prog w vals rest faults) : vals.size = faults.length := by
  obtain ⟨l, rfl, _, hp⟩ := h
  simp [hp.length]

/-- what the state field holds -/
noncomputable def StOk (c : Cx) (x : DS) (stv : Value) (rest : List (Addr × Obj)) : Prop := ∃ mu, stv = .ref mu ∧ (mu, methodObj (.ref x.fn) (.ref c.r)) ∈ rest

structure Mc where
  (st : DS) (rest : List Nat) (tk : Tk) (faults : List Str) (done : Bool)

structure Rep (prog : Program) (w : World) (c : Cx) (z : SD) (M : Mc) (d : Dy) (rest : List (Addr × Obj)) : Prop where
  st : StOk c M.st d.stv rest
  tx : TxOk z d.sd M.rest
  tok : TokOk prog w M.tk d.ot
  q : ∃ vals, QOk prog w vals rest M.faults ∧ d.vals = if M.done then vals.push (.ref c.tk) else vals
  nb : M.tk.name.length + M.rest.length ≤ 9000
  pb : ∀ x, M.tk.pub = some x → x.length + M.rest.length ≤ 9000
  sb : ∀ x, M.tk.sys = some x → x.length + M.rest.length ≤ 9000
structure ZOk (z : SD) : Prop where
  size : z.size = z.chunk.length
  len : z.chunk.length ≤ 9000

section
variable {prog : Program} {w : World} {A : Around} {s : Shared} {h₀ : Heap} {L : Addr} {m : Str → Option Value} {rest : List (Addr × Obj)} {K : Frag}
  {R : Result → Shared → Prop} {name qual : Str} {params : Arguments} {body : List Stmt} {scope : Scope} {dV kV doc pm cdv ct oc : Value} {an od : Option Addr} {osl : Array (Option Value)} {f : Addr}
  {p : Program} {loose : List Str} {mg mb : Str → Option Value} {c : Cx} {d : Dy} {z : SD}

/-- what a state's call comes to -/
noncomputable def StRet (prog : Program) (w : World) (c : Cx) (z : SD) (M : Mc) (h₀ : Heap) (L : Addr) (m : Str → Option Value) (rest : List (Addr × Obj)) (R : Result → Shared → Prop) (s : Shared) : Prop :=
  ∀ d' rest' h' tk, Rep prog w c z M d' rest' → (∀ q ∈ rest, q ∈ rest') → Fr h₀ L h' m → Ld h₀ L h' (led w.params c d' ++ rest') → R (.ok (.ret (.bool true))) { s with heap := h', toks := tk }

/-- a state's body has run to its end: return True is left -/
theorem st_ret {env : Env} {g : Heap} {L' : Addr} {m' : Str → Option Value} {A' : Around} {M : Mc} {d' : Dy} {rest' : List (Addr × Obj)} {h' : Heap} {tk k : Nat} {p1 p2 : Pos} (hR : StRet prog w c z M h₀ L m rest R s)
    (F' : Fr g L' h' m') (D' : Ld g L' h' (led w.params c d' ++ rest')) (hr : Rep prog w c z M d' rest') (hs : ∀ q ∈ rest, q ∈ rest') (nd : ((led w.params c d' ++ rest').map (·.1)).Nodup) :
    wpAny (model prog w) A' (execs [.Return (some (.Constant (.bool true) k p1)) p2] env) (fun fl s' => LeaveK h₀ L m g R (match fl with | .ret v => v | _ => .none) s') (fun _ _ => False) { s with heap := h', toks := tk } := by
  refine wpAny_execs_cons (wpAny_Return_some (wpAny_Constant_bool ?_))
  exact leaveK_ F' D'.N fun F₅ N₅ => hR d' rest' h' tk hr hs F₅ ⟨N₅, nd⟩

theorem st_enter {ch : Nat} {r : List Nat} {p1 p2 p3 p4 p5 p6 : Pos} {tail : List Stmt} (hA : Room A 3) (F : Fr h₀ L s.heap m) (D : Ld h₀ L s.heap (led w.params c d ++ rest)) (X : (Mine.hd.heap_1 w.params).In h₀) (T₀ : TopRead p loose mg mb h₀) (hz : ZOk z) (tx : TxOk z d.sd (ch :: r))
    (ho : (Mine.hd.heap_1 w.params).lookup f = some ⟨oc, od, .func (fnOf name qual params (.Assign [.Name "data" p1] (.Call (.Attribute (.Attribute (.Name "self" p2) "stream" p3) "char" p4) [] [] p5) p6 :: tail) scope dV kV doc pm an cdv ct), osl⟩)
    (hcd : codeIn (Mine.hd.heap_1 w.params) cdv qual = true)
    (hbind : bindArgs (fnOf name qual params (.Assign [.Name "data" p1] (.Call (.Attribute (.Attribute (.Name "self" p2) "stream" p3) "char" p4) [] [] p5) p6 :: tail) scope dV kV doc pm an cdv ct) ⟨[.ref c.r], []⟩ = pure [(Str.ofString "self", Value.ref c.r)])
    (hl1 : scope.names.lookup (Str.ofString "self") = some .local) (hl2 : scope.names.lookup (Str.ofString "data") = some .local)
    (h : ∀ g L' h' tk m' t u, Fr g L' h' m' → m' "self" = some (.ref c.r) → m' "data" = some (.str (one ch) t) → Ld g L' h' (led w.params c { d with sd := { d.sd with off := d.sd.off + 1, ot := u } } ++ rest) → (Mine.hd.heap_1 w.params).In g → TopRead p loose mg mb g →
      Room (A.deeper (envOf qual scope L' f cdv)) 2 → wpAny (model prog w) (A.deeper (envOf qual scope L' f cdv)) (execs tail (envOf qual scope L' f cdv)) (fun fl s' => LeaveK h₀ L m g R (match fl with | .ret v => v | _ => .none) s') (fun _ _ => False) { s with heap := h', toks := tk })
    (hcell : ∀ x ∈ scope.names, x.2 ≠ .cell) (hco : scope.isCoroutine = false := by rfl) (hgen : scope.isGenerator = false := by rfl) (hk : scope.kind = .function := by rfl) :
    codeAny (model prog w) A (.call (.ref f) ⟨[.ref c.r], []⟩) R s := by
  refine call_M (binds := [(Str.ofString "self", Value.ref c.r)]) hA.lt F D.N X T₀ ho hcd (BindsTo.of_eq hbind) (fun y hy => by rw [List.mem_singleton.mp hy]; exact hl1) (fun g L' h₁ F₁ N₁ X₁ T₁ lt => ?_) hcell hco hgen hk
  have hA' : Room (A.deeper (envOf qual scope L' f cdv)) 2 := hA.deeper
  obtain ⟨e1, e2, e3, e4, e5⟩ := tx.char
  have hb := hz.len
  have hs := hz.size
  refine wpAny_execs_cons (op_char (ch := ch) ⟨by have := hA'.depth; omega, by have := hA'.units; omega, hA'.handled⟩ F₁ X₁ T₁ ⟨N₁, D.nd⟩ rfl (by rw [e2, hs]; exact e4) e3 (by rw [e2, hs]; omega) e5 (fun h' tk t u F' D' => ?_) hk hl1 hl2)
  exact h g L' h' tk _ t u F' (by
    show (if ("self" : Str) = "data" then _ else _) = _
    rw [if_neg (by decide)]; rfl) (by
    show (if ("data" : Str) = "data" then _ else _) = _
    rw [if_pos rfl]; rfl) D' X₁ T₁ hA'
end
end
end Mine
end
-- part LM
section
open PySem PySem.W PySem.Calls PyProof.Rows
set_option Elab.async false
set_option maxRecDepth 100000
namespace Mine
noncomputable section

/-- a turn: the state's method, called, turns M into M' -/
noncomputable def Run (prog : Program) (w : World) (c : Cx) (z : SD) (M M' : Mc) : Prop :=
  ∀ (A : Around) (s : Shared) (h₀ : Heap) (L : Addr) (m : Str → Option Value) (rest : List (Addr × Obj)) (R : Result → Shared → Prop) (p : Program) (loose : List Str) (mg mb : Str → Option Value) (d : Dy),
    Room A 3 → Fr h₀ L s.heap m → Ld h₀ L s.heap (led w.params c d ++ rest) → (Mine.hd.heap_1 w.params).In h₀ → TopRead p loose mg mb h₀ → ZOk z → Rep prog w c z M d rest → M.faults.length ≤ 900 →
    StRet prog w c z M' h₀ L m rest R s → codeAny (model prog w) A (.call (.ref M.st.fn) ⟨[.ref c.r], []⟩) R s

theorem Room.le {A : Around} {n k : Nat} (h : Room A n) (hk : k ≤ n) : Room A k := ⟨by have := h.depth; omega, by have := h.units; omega, h.handled⟩


theorem one_ne {ch n : Nat} {x : Str} (h : ch ≠ n) (e : x = one n) : (one ch == x) = false := by
  rw [e, one_beq]; exact beq_eq_false_iff_ne.mpr h
theorem one_yes {n : Nat} {x : Str} (e : x = one n) : (one n == x) = true := by rw [e]; exact beq_self_eq_true _
theorem two_ne {ch a b : Nat} {x y : Str} (h : ch ≠ a) (h' : ch ≠ b) (e : x = one a) (e' : y = one b) : (x == one ch || y == one ch) = false := by
  rw [e, e', one_beq, one_beq, beq_eq_false_iff_ne.mpr (Ne.symm h), beq_eq_false_iff_ne.mpr (Ne.symm h')]; rfl
theorem two_yes {ch a b : Nat} {x y : Str} (h : ch = a ∨ ch = b) (e : x = one a := by rfl) (e' : y = one b := by rfl) : (x == one ch || y == one ch) = true := by
  rw [e, e', one_beq, one_beq]
  rcases h with rfl | rfl <;> simp
theorem fffd : Str.ofString "�" = one 65533 := by kernel_rfl
theorem lowS_len (y : Str) : (lowS y).length = y.length := by simp [lowS, Str.length]
theorem len_one (y : Str) (n : Nat) : (y ++ one n).length = y.length + 1 := Str.length_append _ _

section
variable {prog : Program} {w : World} {A : Around} {E : Value → Shared → Prop} {s : Shared} {h₀ : Heap} {L a : Addr} {m : Str → Option Value} {rest : List (Addr × Obj)}
  {p : Program} {loose : List Str} {mg mb : Str → Option Value} {cn : Str} {cs : Scope} {cd : Value} {c : Cx} {d : Dy} {Q : Flow → Shared → Prop}

theorem Rep.start {z : SD} {st : DS} {ch : Nat} {r : List Nat} {k : Tk} {fs : List Str} (hr : Rep prog w c z ⟨st, ch :: r, k, fs, false⟩ d rest) (hz : ZOk z) (hq : fs.length ≤ 900) :
    d.vals.size ≤ 950 ∧ d.sd.chunk = z.chunk ∧ d.sd.size = z.size ∧ 0 ≤ d.sd.off ∧ d.sd.off < z.chunk.length ∧ d.sd.chunk.cps[d.sd.off.toNat]? = some ch ∧ z.chunk.length ≤ 9000 ∧
      k.name.length + (r.length + 1) ≤ 9000 ∧ (∀ x, k.pub = some x → x.length + (r.length + 1) ≤ 9000) ∧ ∀ x, k.sys = some x → x.length + (r.length + 1) ≤ 9000 := by
  obtain ⟨vals, q1, q2⟩ := hr.q
  have q3 : d.vals = vals := q2
  have q4 : vals.size = fs.length := q1.size
  obtain ⟨e1, e2, e3, e4, e5⟩ := hr.tx.char
  exact ⟨by rw [q3, q4]; omega, e1, e2, e3, e4, e5, hz.len, hr.nb, hr.pb, hr.sb⟩

/-- how things stand where a state begins to read a sign -/
inductive Starts (prog : Program) (w : World) (z : SD) (d : Dy) (rest : List (Addr × Obj)) (ch : Nat) (r : List Nat) (nm : Str) (pb sy : Option Str) (ok : Bool) (fs : List Str) : Prop
  | mk (hvs : d.vals.size ≤ 950) (e1 : d.sd.chunk = z.chunk) (e2 : d.sd.size = z.size) (e3 : 0 ≤ d.sd.off) (e4 : d.sd.off < z.chunk.length) (e5 : d.sd.chunk.cps[d.sd.off.toNat]? = some ch) (hzl : z.chunk.length ≤ 9000)
      (hnb : nm.length + (r.length + 1) ≤ 9000) (hpb : ∀ y : Str, pb = some y → y.length + (r.length + 1) ≤ 9000) (hsb : ∀ y : Str, sy = some y → y.length + (r.length + 1) ≤ 9000)
      (vals : Array Value) (q1 : QOk prog w vals rest fs) (q2 : d.vals = vals) (t0 t1 : Tok) (v2 v3 : Value) (ht : d.ot.IsDictOf (strKind prog w) (tkl (.int 0 t0) (.str nm t1) v2 v3 (.bool ok))) (hp : OptV pb v2) (hsy : OptV sy v3)
theorem Rep.starts {z : SD} {st : DS} {ch : Nat} {r : List Nat} {nm : Str} {pb sy : Option Str} {ok : Bool} {fs : List Str} (hr : Rep prog w c z ⟨st, ch :: r, ⟨nm, pb, sy, ok⟩, fs, false⟩ d rest) (hz : ZOk z) (hq : fs.length ≤ 900) :
    Starts prog w z d rest ch r nm pb sy ok fs := by
  obtain ⟨hvs, e1, e2, e3, e4, e5, hzl, hnb, hpb, hsb⟩ := hr.start hz hq
  obtain ⟨vals, q1, q2⟩ := hr.q
  obtain ⟨t0, t1, v2, v3, ht, hp, hsy⟩ := hr.tok
  exact ⟨hvs, e1, e2, e3, e4, e5, hzl, hnb, hpb, hsb, vals, q1, q2, t0, t1, v2, v3, ht, hp, hsy⟩

theorem Ld.perm {h : Heap} {l l' : List (Addr × Obj)} (D : Ld h₀ L h l) (q : l'.Perm l) : Ld h₀ L h l' := ⟨fun p hp => D.N p (q.mem_iff.mp hp), (q.map (·.1)).nodup_iff.mpr D.nd⟩

/-- the error that tells a sign: {'type': .., 'data': .., 'datavars': {'data': data}} -/
theorem op_errd {x y : Str} {v : Value} {p1 p2 p3 p4 p5 p6 p7 p8 p9 p10 p11 q1 q2 q3 q4 q5 : Pos} {k1 k2 k3 k4 k5 k6 : Nat} (F : Fr h₀ L s.heap m) (X : (Mine.hd.heap_1 w.params).In h₀) (T₀ : TopRead p loose mg mb h₀) (D : Ld h₀ L s.heap (led w.params c d ++ rest)) (hx : m "self" = some (.ref c.r)) (hv : m y = some v)
    (hsz : d.vals.size ≤ 1000)
    (h : ∀ h' tk b o z, Fr h₀ L h' m → Ld h₀ L h' (led w.params c { d with vals := d.vals.push (.ref b), nq := d.nq + 1 } ++ (b, o) :: z :: rest) → ErrObj prog w o x → Q .next { s with heap := h', toks := tk })
    (hk : cs.kind = .function := by rfl) (hy : (envOf cn cs L a cd).kindOf "self" = some .local := by rfl) (hz : (envOf cn cs L a cd).kindOf "tokenTypes" = some .globalImplicit := by rfl) (hu : (envOf cn cs L a cd).kindOf y = some .local := by rfl)
    (hd : (y == ("__debug__" : Str)) = false := by decide) :
    wpAny (model prog w) A (exec (.Expr (.Call (.Attribute (.Attribute (.Name "self" q1) "tokenQueue" q2) "append" q3) [.Dict [some (.Constant (.str "type") k1 p1), some (.Constant (.str "data") k2 p2), some (.Constant (.str "datavars") k5 p8)] [.Subscript (.Name "tokenTypes" p3) (.Constant (.str "ParseError") k3 p4) p5, .Constant (.str x) k4 p6, .Dict [some (.Constant (.str "data") k6 p9)] [.Name y p10] p11] p7] [] q4) q5) (envOf cn cs L a cd)) Q E s := by
  refine op_append (Post := fun v r => ∃ b o z, v = .ref b ∧ r = (b, o) :: z :: rest ∧ ErrObj prog w o x) F X D hx (fun s₁ E Q F₁ D₁ k => ?_) (Nat.le_trans hsz (by decide)) (fun h' tk v rest' F' D' hp => ?_) rfl hk hy
  · refine kdn_str rfl F₁ D₁.N T₀.nolimit rfl rfl (List.cons_ne_nil _ _) (Nat.le_of_ble_eq_true rfl) fun b h' o F' N' lt lo hdo => ?_
    refine pairTrees_cons_walk (wpAny_Constant_str (Subscript_ (name_K F' X T₀ g_tt (wpAny_Constant_str ?_) hk hz)))
    refine topItem_K (v := .int 7 547) F' X (by k_is) (by repeat (first | exact True.intro | refine And.intro ⟨_, _, rfl, rfl⟩ ?_)) (by k_is) ?_
    refine pairTrees_cons_walk (wpAny_Constant_str (wpAny_Constant_str ?_))
    refine pairTrees_cons_walk (wpAny_Constant_str ?_)
    refine kdn_str rfl F' N' T₀.nolimit rfl rfl (List.cons_ne_nil _ _) (Nat.le_of_ble_eq_true rfl) fun e h₂ oe F₂ N₂ lt₂ lo₂ hde => ?_
    refine pairTrees_cons_walk (wpAny_Constant_str (ld F₂ hv (pairTrees_nil_walk ?_) hk hu hd))
    refine kdn_made_str (g := fun o' => (e, o') :: (b, o) :: _) F₂ N₂ (.head fun p hp => Nat.ne_of_lt (lt₂ p hp)) hde rfl (of_decide_eq_true (by kernel_rfl)) fun h₃ oe' F₃ N₃ hde' => ?_
    refine pairTrees_nil_walk ?_
    have neb : e ≠ b := fun q => absurd (lt₂ (b, o) (.head _)) (by rw [q]; exact Nat.lt_irrefl _)
    refine kdn_made_str (g := fun o' => (e, oe') :: (b, o') :: _) F₃ N₃ (.tail neb (.head fun p hp => Nat.ne_of_lt (lt p hp))) hdo rfl (of_decide_eq_true (by kernel_rfl)) fun h₄ o' F₄ N₄ hdo' => ?_
    have D₄ : Ld h₀ L h₄ (led w.params c d ++ (b, o') :: (e, oe') :: rest) := by
      refine Ld.perm ⟨N₄, ?_⟩ ((List.perm_middle.trans ((List.perm_middle).cons _)).trans (List.Perm.swap _ _ _))
      refine List.nodup_cons.mpr ⟨fun q => ?_, List.nodup_cons.mpr ⟨fun q => ?_, D₁.nd⟩⟩
      · rcases List.mem_cons.mp q with q | q
        · exact neb q
        · obtain ⟨x, hx, q⟩ := List.mem_map.mp q
          exact absurd (lt₂ x (.tail _ hx)) (by rw [show x.1 = e from q]; exact Nat.lt_irrefl _)
      · obtain ⟨x, hx, q⟩ := List.mem_map.mp q
        exact absurd (lt x hx) (by rw [show x.1 = b from q]; exact Nat.lt_irrefl _)
    exact k _ _ _ _ F₄ D₄ ⟨b, o', (e, oe'), rfl, rfl, _, _, _, hdo', rfl, rfl⟩
  · obtain ⟨b, o, z, rfl, rfl, ho⟩ := hp
    exact h _ _ _ _ _ F' D' ho
end
end
end Mine
end
-- part NA
section
open PySem PySem.W PySem.Calls PyProof.Rows
set_option Elab.async false
set_option maxRecDepth 100000
namespace Mine
noncomputable section
section
variable {prog : Program} {w : World} {A : Around} {s : Shared} {h₀ : Heap} {L : Addr} {m : Str → Option Value} {news : List (Addr × Obj)} {K : Frag}
  {R : Result → Shared → Prop} {name qual : Str} {params : Arguments} {body : List Stmt} {scope : Scope} {dV kV doc pm cdv ct oc : Value} {an od : Option Addr} {osl : Array (Option Value)} {f : Addr} {args : Args} {binds : List (Str × Value)}
  {p : Program} {loose : List Str} {mg mb : Str → Option Value}

/-- a def some of whose names are cells -/
theorem call_MC (hroom : A.depth < recursionLimit) (F : Fr h₀ L s.heap m) (N : News h₀ L s.heap news) (X : K.In h₀) (T : TopRead p loose mg mb h₀)
    (ho : K.lookup f = some ⟨oc, od, .func (fnOf name qual params body scope dV kV doc pm an cdv ct), osl⟩) (hcd : codeIn K cdv qual = true)
    (hbind : BindsTo s (fnOf name qual params body scope dV kV doc pm an cdv ct) args binds) (hkind : (binds.all fun y => scope.names.lookup y.1 == some .local || scope.names.lookup y.1 == some .cell) = true)
    (hnd : ((cellsFrom 0 scope.names []).map (·.1)).Nodup)
    (h : ∀ g L' h₁ tk cells, Fr g L' h₁ (bindL (envOfC qual scope L' f cdv).kindOf binds fun _ => none) → News g L' h₁ (cells ++ news) →
      CellsAre (bindC (envOfC qual scope L' f cdv).kindOf binds fun _ => none) (cellsFrom (L' + 1) scope.names []) cells → K.In g → TopRead p loose mg mb g → (∀ p ∈ news, p.1 < L') →
      wpAny (model prog w) (A.deeper (envOfC qual scope L' f cdv)) (execs body (envOfC qual scope L' f cdv))
        (fun fl s' => LeaveK h₀ L m g R (match fl with | .ret v => v | _ => .none) s') (fun _ _ => False) { s with heap := h₁, toks := tk })
    (hco : scope.isCoroutine = false := by rfl) (hgen : scope.isGenerator = false := by rfl) (hk : scope.kind = .function := by rfl) :
    codeAny (model prog w) A (.call (.ref f) args) R s := by
  have XS := X.keeps F.keep
  have nm : ∀ b o, h₀.get? b = some o → b ∉ news.map (·.1) := fun b o e q => by
    obtain ⟨p, hp, rfl⟩ := List.mem_map.mp q
    rw [(N p hp).2.2] at e; cases e
  have st : h₀.StaysIn (hideAll s.heap (news.map (·.1))) := fun b o e => hideAll_get _ (F.keep b o e) (nm b o e)
  obtain ⟨oL, es, ep, hL, hLd, hLk, hLf⟩ := F.ns
  have nL : L ∉ news.map (·.1) := fun q => by
    obtain ⟨p, hp, e⟩ := List.mem_map.mp q
    exact (N p hp).2.1 e
  have hLg := hideAll_get (news.map (·.1)) hL nL
  refine codeAny_call_function hroom (XS _ _ ho) rfl hco hgen rfl (codeRec_of XS hcd) (hbind _ _ _ _ ?_)
  refine wpAny_newFunctionEnv_cells hk (kindsX hkind _) fun env' he s' x => ?_
  subst he
  refine ⟨(T.nolimit.keeps F.keep).keeps x.toInCall.keep, codeAny_func ?_⟩
  obtain ⟨h₁, tk, rfl, _⟩ := x.done
  have hk₁ := x.toInCall.keep
  obtain ⟨cells, NC, Y⟩ := Cl.news (h₀ := s.heap) (Nat.le_refl _) fun n c hm => ⟨x.cell n c (lookup_of_mem_nodup (cellsFrom_names scope.names 0 (s.heap.objs.size + 1) [] [] rfl ▸ hnd) hm), x.above n c hm⟩
  refine wpAny_mono (h _ s.heap.objs.size h₁ tk cells ⟨x.toInCall.ns, fun b o e => hk₁ b o (of_hideAll _ e), Nat.le_of_eq (hideAll_size _ _)⟩ (fun p hp => ?_) Y (X.keeps st) (T.keeps st) (fun p hp => Heap.lt_size (N p hp).1)) (fun fl s' hl => ?_) fun _ _ y => y.elim
  · rcases List.mem_append.mp hp with hp | hp
    · refine ⟨(NC p hp).1, (NC p hp).2.1, ?_⟩
      cases q : (hideAll s.heap (news.map (·.1))).get? p.1 with
      | none => rfl
      | some o => have := of_hideAll _ q; rw [(NC p hp).2.2] at this; cases this
    · exact ⟨hk₁ _ _ (N p hp).1, Nat.ne_of_lt (Heap.lt_size (N p hp).1), hideAll_none _ (List.mem_map_of_mem hp)⟩
  · obtain ⟨L', m', news', F', N', k⟩ := hl
    refine k ⟨⟨oL, es, ep, F'.keep L oL hLg, hLd, hLk, hLf⟩, fun b o e => F'.keep b o (st b o e), F.above⟩ fun p hp => ⟨(N' p hp).1, fun q => ?_, ?_⟩
    · have := (N' p hp).2.2; rw [q, hLg] at this; cases this
    · cases q : h₀.get? p.1 with
      | none => rfl
      | some o => have := (N' p hp).2.2; rw [st _ _ q] at this; cases this
end

section
variable {prog : Program} {w : World} {M : Model} {A : Around} {E : Value → Shared → Prop} {s : Shared} {h₀ : Heap} {L a : Addr} {m : Str → Option Value} {l : List (Addr × Obj)} {cn : Str} {cs : Scope} {cd : Value} {cl : List (Str × Addr)}
theorem stX {x : Str} {v : Value} {Q : Unit → Shared → Prop} (F : Fr h₀ L s.heap m) (D : Ld h₀ L s.heap l)
    (h : ∀ h' tk, Fr h₀ L h' (fun y => if y = x then some v else m y) → Ld h₀ L h' l → Q () { s with heap := h', toks := tk })
    (hk : cs.kind = .function := by rfl) (hx : (envX cn cs L a cd cl).kindOf x = some .local := by rfl) : wpAny M A (storeName (envX cn cs L a cd cl) x v) Q E s :=
  storeX_L F D.N (fun h' F' N' => h h' _ F' ⟨N', D.nd⟩) hk hx
end
end
end Mine
end
-- part LO
section
open PySem PySem.W PySem.Calls PyProof.Rows
set_option Elab.async false
set_option maxRecDepth 100000
namespace Mine
noncomputable section
section
variable {prog : Program} {w : World} {A : Around} {s : Shared} {h₀ : Heap} {L : Addr} {m : Str → Option Value} {l : List (Addr × Obj)}

/-- what a loop's turn comes to -/
noncomputable def ForPost (h₀ : Heap) (L I : Addr) (Jn : (Str → Option Value) → List (Addr × Obj) → Prop) (Qr : Value → Shared → Prop) (Qb : Shared → Prop) (oI : Obj) (s : Shared) : Flow → Shared → Prop
  | .ret v, s₂ => Qr v s₂
  | .brk, s₂ => Qb s₂
  | _, s₂ => ∃ h' tk m' l', s₂ = { s with heap := h', toks := tk } ∧ Fr h₀ L h' m' ∧ Ld h₀ L h' (l' ++ [(I, oI)]) ∧ Jn m' l'

structure LoopIt (prog : Program) (w : World) (A : Around) (I : Addr) (fp : List Addr) (n : Nat) (P : Nat → Value → Prop) (St : Nat → Heap → Prop) (h : Heap) : Prop where
  W : Walks prog w A I fp [I] n P St
  hI : ∀ i h, St i h → ∃ o, h.get? I = some o
  hst : St 0 h

theorem for_ld {env : Env} {x : Str} {px : Pos} {body : List Stmt} {R : Result → Shared → Prop} {I : Addr} {oI : Obj} {fp : List Addr} {n : Nat} {P : Nat → Value → Prop} {St : Nat → Heap → Prop}
    (J : Nat → (Str → Option Value) → List (Addr × Obj) → Prop) (IT : LoopIt prog w A I fp n P St s.heap)
    (hx : env.kindOf x = some .local) (hp : (env.scope.kind == .class || (env.scope.kind == .module && env.locals != env.globals)) = false) (hL : env.locals = L)
    (hfp : ∀ b ∈ fp, b = I ∨ (∃ o, h₀.get? b = some o) ∨ (∃ o, ∀ i m l, J i m l → (b, o) ∈ l))
    (F : Fr h₀ L s.heap m) (D : Ld h₀ L s.heap (l ++ [(I, oI)])) (hj : J 0 m l)
    (turn : ∀ i v m₁ l₁ h tk oI, i < n → P i v → J i m₁ l₁ → Fr h₀ L h (fun y => if y = x then some v else m₁ y) → Ld h₀ L h (l₁ ++ [(I, oI)]) →
      wpAny (model prog w) A (execs body env) (ForPost h₀ L I (J (i + 1)) (fun v s' => R (.ok (.ret v)) s') (fun s' => R (.ok .next) s') oI s) (fun _ _ => False) { s with heap := h, toks := tk })
    (done : ∀ m₁ l₁ h tk, J n m₁ l₁ → Fr h₀ L h m₁ → Ld h₀ L h l₁ → R (.ok .next) { s with heap := h, toks := tk }) :
    codeAny (model prog w) A (.forLoop (.Name x px) (.ref I) body [] env) R s := by
  subst hL
  obtain ⟨W, hI, hst⟩ := IT
  have mI : ∀ {l : List (Addr × Obj)} {o : Obj}, (I, o) ∈ l ++ [(I, o)] := by intro l o; simp
  have hIL : I ≠ env.locals := (D.N _ mI).2.1
  have hI0 : h₀.get? I = none := (D.N _ mI).2.2
  have old : ∀ b o, h₀.get? b = some o → b ≠ I := fun b o e q => by rw [q, hI0] at e; cases e
  have hLI : env.locals ∉ [I] := fun q => hIL (List.mem_singleton.mp q).symm
  refine codeAny_forLoop
    (fun k s' => ∃ h' tk m' l' oI i, s' = { s with heap := h', toks := tk } ∧ St i h' ∧ Fr h₀ env.locals h' m' ∧ Ld h₀ env.locals h' (l' ++ [(I, oI)]) ∧ J i m' l' ∧ i ≤ n ∧ k = n + 1 - i) ?_ (n + 1)
    ⟨s.heap, s.toks, m, l, oI, 0, rfl, hst, F, D, hj, Nat.zero_le _, rfl⟩
  rintro k s' ⟨h', tk, m', l', oI', i, rfl, hst', F', D', hJ, hi, rfl⟩
  have next : ∀ h₁ o₁, h₁.get? I = some o₁ → (∀ b o, b ∉ [I] → h'.get? b = some o → h₁.get? b = some o) → Fr h₀ env.locals h₁ m' ∧ Ld h₀ env.locals h₁ (l' ++ [(I, o₁)]) := fun h₁ o₁ e₁ hk₁ => by
    refine ⟨⟨F'.ns.at' fun o e => hk₁ _ o hLI e, fun b o e => hk₁ b o (fun q => old b o e (List.mem_singleton.mp q)) (F'.keep b o e), F'.above⟩, fun p hp => ?_, ?_⟩
    · rcases List.mem_append.mp hp with q | q
      · have nI : p.1 ∉ [I] := fun z => by
          have nd := D'.nd
          rw [List.map_append, List.nodup_append] at nd
          exact nd.2.2 p.1 (List.mem_map_of_mem q) I (by simp) (List.mem_singleton.mp z)
        have z := D'.N p (List.mem_append_left _ q)
        exact ⟨hk₁ _ _ nI z.1, z.2⟩
      · rw [List.mem_singleton.mp q]; exact ⟨e₁, hIL, hI0⟩
    · have nd := D'.nd
      simpa using nd
  have fpL : ∀ i m₁ l₁ h, J i m₁ l₁ → Ld h₀ env.locals h l₁ → env.locals ∉ fp := fun i m₁ l₁ h hj D q => by
    rcases hfp _ q with e | ⟨o, e⟩ | ⟨o, e⟩
    · exact hIL e.symm
    · exact absurd (Heap.lt_size e) (Nat.not_lt.mpr F'.above)
    · exact (D.N _ (e _ _ _ hj)).2.1 rfl
  have left : ∀ {h : Heap} {l₁ : List (Addr × Obj)} {o : Obj}, Ld h₀ env.locals h (l₁ ++ [(I, o)]) → Ld h₀ env.locals h l₁ := fun D => ⟨fun p hp => D.N p (List.mem_append_left _ hp), by
    have nd := D.nd
    rw [List.map_append, List.nodup_append] at nd
    exact nd.1⟩
  by_cases hlt : i < n
  · refine W.item i _ _ _ hlt hst' fun v h₁ tk₁ hP hst₁ hk₁ => ?_
    obtain ⟨o₁, e₁⟩ := hI _ _ hst₁
    obtain ⟨F₁, D₁⟩ := next h₁ o₁ e₁ hk₁
    have hLfp := fpL i m' l' h₁ hJ (left D₁)
    refine wpAny_assign_Name (wpAny_storeName_local hx F₁.ns (fun h₂ hn₂ hs₂ => ?_) hp)
    have F₂ := F₁.set hn₂ hs₂
    have D₂ : Ld h₀ env.locals h₂ (l' ++ [(I, o₁)]) := ⟨D₁.N.set hs₂, D₁.nd⟩
    refine wpAny_mono (turn i v m' l' h₂ _ o₁ hlt hP hJ F₂ D₂) (fun f s₃ h₃ => ?_) fun _ _ e => e.elim
    have fin : (∃ h' tk m' l', s₃ = { s with heap := h', toks := tk } ∧ Fr h₀ env.locals h' m' ∧ Ld h₀ env.locals h' (l' ++ [(I, o₁)]) ∧ J (i + 1) m' l') →
        ∃ m, m < n + 1 - i ∧ ∃ h' tk m' l' oI i, s₃ = { s with heap := h', toks := tk } ∧ St i h' ∧ Fr h₀ env.locals h' m' ∧ Ld h₀ env.locals h' (l' ++ [(I, oI)]) ∧ J i m' l' ∧ i ≤ n ∧ m = n + 1 - i := by
      rintro ⟨g₃, tk₃, m₃, l₃, rfl, F₃, D₃, hJ₃⟩
      refine ⟨n + 1 - (i + 1), by omega, g₃, tk₃, m₃, l₃, o₁, i + 1, rfl, ?_, F₃, D₃, hJ₃, hlt, rfl⟩
      refine W.frame _ _ _ hst₁ fun b hb o e => ?_
      rcases hfp b hb with rfl | ⟨o₀, q⟩ | ⟨o₀, q⟩
      · rw [e₁] at e; cases e
        exact (D₃.N _ mI).1
      · have := F₁.keep b o₀ q
        rw [e] at this; cases this
        exact F₃.keep b _ q
      · have := ((left D₁).N _ (q _ _ _ hJ)).1
        rw [e] at this; cases this
        exact ((left D₃).N _ (q _ _ _ hJ₃)).1
    cases f with
    | ret v => exact h₃
    | brk => exact h₃
    | cont => exact fin h₃
    | next => exact fin h₃
  · have hin : i = n := by omega
    subst hin
    refine W.done _ _ _ hst' fun h₁ tk₁ hk₁ => wpAny_execs_nil ?_
    have D₁ : Ld h₀ env.locals h₁ l' := ⟨fun p hp => ?_, (left D').nd⟩
    · exact done m' l' h₁ tk₁ hJ ⟨F'.ns.at' fun o e => hk₁ _ o hLI e, fun b o e => hk₁ b o (fun q => old b o e (List.mem_singleton.mp q)) (F'.keep b o e), F'.above⟩ D₁
    · have z := (left D').N p hp
      refine ⟨hk₁ _ _ (fun z => ?_) z.1, z.2⟩
      have nd := D'.nd
      rw [List.map_append, List.nodup_append] at nd
      exact nd.2.2 p.1 (List.mem_map_of_mem hp) I (by simp) (List.mem_singleton.mp z)

variable {E : Value → Shared → Prop}
theorem Ld.snoc {m : Str → Option Value} (F : Fr h₀ L s.heap m) (D : Ld h₀ L s.heap l) (o : Obj) (hfree : o.isFreed = false := by rfl) : Ld h₀ L (s.heap.push o) (l ++ [(s.heap.objs.size, o)]) := by
  refine Ld.perm (l := (s.heap.objs.size, o) :: l) ⟨D.N.push F o hfree, List.nodup_cons.mpr ⟨fun q => ?_, D.nd⟩⟩ (by simpa using (List.perm_middle (l₁ := l) (l₂ := []) (a := (s.heap.objs.size, o))))
  obtain ⟨p, hp, e⟩ := List.mem_map.mp q
  have := Heap.lt_size (D.N p hp).1
  rw [e] at this
  exact absurd this (Nat.lt_irrefl _)

theorem iter_tup {t : Addr} {items : Array Value} {Q : Value → Shared → Prop} (hh : A.handled = none) (F : Fr h₀ L s.heap m) (D : Ld h₀ L s.heap l) (ht : (t, { cls := .type "tuple", data := .seq items }) ∈ l)
    (h : ∀ I oI h' St, Fr h₀ L h' m → Ld h₀ L h' (l ++ [(I, oI)]) → LoopIt prog w A I [I, t] items.size (fun i v => items[i]? = some v) St h' → Q (.ref I) { s with heap := h' }) :
    wpAny (model prog w) A (pyIter (.ref t)) Q E s := by
  have hT : s.heap.IsTuple t items := ⟨_, D.N.get ht, rfl, _, rfl⟩
  refine wpAny_pyIter_tuple hT ?_
  have hne : t ≠ s.heap.objs.size := Nat.ne_of_lt (Heap.lt_size (D.N _ ht).1)
  exact h _ _ _ _ (F.push _) (D.snoc F _) ⟨Walks.tuple hh _ t hne items, fun i h st => ⟨_, st.1.choose_spec.1⟩, ⟨_, Heap.get?_push_size _ rfl, rfl, rfl⟩, hT.push _⟩
theorem iter_list {t : Addr} {items : Array Value} {k : Nat} {Q : Value → Shared → Prop} (hh : A.handled = none) (F : Fr h₀ L s.heap m) (D : Ld h₀ L s.heap l) (ht : (t, { cls := .type "list", data := .seq items k }) ∈ l)
    (h : ∀ I oI h' St, Fr h₀ L h' m → Ld h₀ L h' (l ++ [(I, oI)]) → LoopIt prog w A I [I, t] items.size (fun i v => items[i]? = some v) St h' → Q (.ref I) { s with heap := h' }) :
    wpAny (model prog w) A (pyIter (.ref t)) Q E s := by
  have hT : s.heap.IsList t items := ⟨_, D.N.get ht, rfl, _, rfl⟩
  refine wpAny_pyIter_list hT ?_
  have hne : t ≠ s.heap.objs.size := Nat.ne_of_lt (Heap.lt_size (D.N _ ht).1)
  exact h _ _ _ _ (F.push _) (D.snoc F _) ⟨Walks.list hh _ t hne items, fun i h st => ⟨_, st.1.choose_spec.1⟩, ⟨_, Heap.get?_push_size _ rfl, rfl, rfl⟩, hT.push _⟩
theorem iter_str {x : Str} {t : Tok} {Q : Value → Shared → Prop} (hh : A.handled = none) (F : Fr h₀ L s.heap m) (D : Ld h₀ L s.heap l)
    (h : ∀ I oI h' St, Fr h₀ L h' m → Ld h₀ L h' (l ++ [(I, oI)]) → LoopIt prog w A I [I] x.cps.size (SignAt x) St h' → Q (.ref I) { s with heap := h' }) :
    wpAny (model prog w) A (pyIter (.str x t)) Q E s := by
  cases ha : x.cps.all (· < 128)
  · exact wpAny_pyIter_wide ha (h _ _ _ _ (F.push _) (D.snoc F _) ⟨Walks.strWide hh _ x t, fun i h st => ⟨_, st.choose_spec.1⟩, ⟨_, Heap.get?_push_size _ rfl, rfl, rfl⟩⟩)
  · exact wpAny_pyIter_ascii ha (h _ _ _ _ (F.push _) (D.snoc F _) ⟨Walks.strAscii hh _ x t, fun i h st => ⟨_, st.choose_spec.1⟩, ⟨_, Heap.get?_push_size _ rfl, rfl, rfl⟩⟩)
end
end
end Mine
end
-- part LP
section
open PySem PySem.W PySem.Calls PyProof.Rows
set_option Elab.async false
set_option maxRecDepth 100000
namespace Mine
noncomputable section
section
variable {prog : Program} {w : World} {A : Around} {E : Value → Shared → Prop} {s : Shared} {h₀ : Heap} {L a : Addr} {m : Str → Option Value} {l rest : List (Addr × Obj)}
  {p : Program} {loose : List Str} {mg mb : Str → Option Value} {cn : Str} {cs : Scope} {cd : Value} {c : Cx} {d : Dy} {z : SD}

noncomputable def tup2 (y z : Str) (t u : Tok) : Obj := { cls := .type "tuple", data := .seq #[.str y t, .str z u] }
theorem pair_el {env : Env} {y z : Str} {k k1 k2 : Nat} {p1 p2 p3 : Pos} {Q : Value → Shared → Prop} (F : Fr h₀ L s.heap m) (D : Ld h₀ L s.heap l)
    (h : ∀ h' tk b t u, Fr h₀ L h' m → Ld h₀ L h' (l ++ [(b, tup2 y z t u)]) → Q (.ref b) { s with heap := h', toks := tk }) :
    wpAny (model prog w) A (eval (.Tuple [.Constant (.str y) k1 p1, .Constant (.str z) k2 p2] k p3) env) Q E s := by
  refine Tuple_ (wpAny_items_cons (wpAny_Constant_str (wpAny_items_cons (wpAny_Constant_str (wpAny_items_nil ?_)))))
  refine wpAny_newObj_type ?_ (by show 2 ≤ sizeLine; decide)
  exact h _ _ _ _ _ (F.push _) (D.snoc F (tup2 y z _ _))

theorem not_in2 {ch : Nat} {t u v : Tok} {x e y z : Str} {b : Addr} {p1 p2 p3 : Pos} (F : Fr h₀ L s.heap m) (D : Ld h₀ L s.heap l) (hx : m x = some (.str (one ch) t)) (he : m e = some (.ref b)) (hm : (b, tup2 y z u v) ∈ l) (hin : (y == one ch || z == one ch) = true)
    (hk : cs.kind = .function := by rfl) (hy : (envOf cn cs L a cd).kindOf x = some .local := by rfl) (hz : (envOf cn cs L a cd).kindOf e = some .local := by rfl) (hd : (x == ("__debug__" : Str)) = false := by decide) (hd' : (e == ("__debug__" : Str)) = false := by decide) :
    Tst (model prog w) A h₀ L m l s (envOf cn cs L a cd) (.Compare (.Name x p1) [.NotIn] [.Name e p2] p3) false := by
  intro E Q h
  refine wpAny_isTrue_Compare1 (ld F hx (ld F he ?_ hk hz hd') hk hy hd)
  refine notin_tuple_strs (News.isTup D.N hm) (.cons _ _ (.cons _ _ .nil)) (wpAny_truthy_bool ?_)
  have e : (!([y, z] : List Str).any (· == one ch)) = false := by rw [show ([y, z] : List Str).any (· == one ch) = true from by rw [← hin]; simp]; rfl
  rw [e]
  exact h _ _ F D

/-- the turns of a keyword's loop -/
theorem kw_loop {I : Addr} {oI : Obj} {T : Addr} {St : Nat → Heap → Prop} {chs r : List Nat} {items : Array Value} {R : Result → Shared → Prop} {p1 p2 p3 p4 p5 p6 p7 p8 p9 p10 p11 p12 p13 p14 px : Pos} {k : Nat}
    (hA : Room A 1) (X : (Mine.hd.heap_1 w.params).In h₀) (T₀ : TopRead p loose mg mb h₀) (hz : ZOk z)
    (F : Fr h₀ L s.heap m) (D : Ld h₀ L s.heap ((led w.params c d ++ rest) ++ [(I, oI)])) (IT : LoopIt prog w A I [I, T] items.size (fun i v => items[i]? = some v) St s.heap)
    (hT : ∃ o, (T, o) ∈ rest) (hs : m "self" = some (.ref c.r)) (tx : TxOk z d.sd (chs ++ r)) (hlen : items.size = chs.length)
    (hit : ∀ (i : Nat) (v : Value), items[i]? = some v → ∃ b y y' t u ch, v = Value.ref b ∧ (b, tup2 y y' t u) ∈ rest ∧ chs[i]? = some ch ∧ (y == one ch || y' == one ch) = true)
    (done : ∀ h' tk m' sd, Fr h₀ L h' m' → Ld h₀ L h' (led w.params c { d with sd := sd } ++ rest) → TxOk z sd r → (∀ y : Str, y ≠ "data" → y ≠ "expected" → m' y = m y) → R (.ok .next) { s with heap := h', toks := tk })
    (hk : cs.kind = .function := by rfl) (hy : (envOf cn cs L a cd).kindOf "self" = some .local := by rfl) (hz1 : (envOf cn cs L a cd).kindOf "data" = some .local := by rfl) (hz2 : (envOf cn cs L a cd).kindOf "expected" = some .local := by rfl) :
    codeAny (model prog w) A (.forLoop (.Name "expected" px) (.ref I) [.Assign [.Name "data" p1] (.Call (.Attribute (.Attribute (.Name "self" p2) "stream" p3) "char" p4) [] [] p5) p6,
      .If (.Compare (.Name "data" p7) [.NotIn] [.Name "expected" p8] p9) [.Assign [.Name "matched" p10] (.Constant (.bool false) k p11) p12, .Break p13] [] p14] [] (envOf cn cs L a cd)) R s := by
  refine for_ld (fun i m₁ l₁ => (∀ y : Str, y ≠ "data" → y ≠ "expected" → m₁ y = m y) ∧ ∃ sd, TxOk z sd (chs.drop i ++ r) ∧ l₁ = led w.params c { d with sd := sd } ++ rest) IT hz2 (by rw [show (envOf cn cs L a cd).scope.kind = .function from hk]; rfl) rfl ?_ F D ⟨fun _ _ _ => rfl, d.sd, tx, rfl⟩ ?_ ?_
  · intro b hb
    rcases List.mem_cons.mp hb with e | e
    · exact .inl e
    · obtain ⟨o, ho⟩ := hT
      rw [List.mem_singleton.mp e]
      exact .inr (.inr ⟨o, fun i m l h => by obtain ⟨_, sd, _, rfl⟩ := h; exact List.mem_append_right _ ho⟩)
  · rintro i v m₁ l₁ h tk oI hi hP ⟨hm, sd, htx, rfl⟩ F₁ D₁
    obtain ⟨b, y, y', t, u, ch, rfl, hb, hch, hin⟩ := hit i v hP
    have ec : chs.drop i = ch :: chs.drop (i + 1) := by
      obtain ⟨h1, h2⟩ := List.getElem?_eq_some_iff.mp hch
      rw [List.drop_eq_getElem_cons h1, h2]
    rw [ec] at htx
    have D₁ : Ld h₀ L h (led w.params c { d with sd := sd } ++ (rest ++ [(I, oI)])) := by rw [← List.append_assoc]; exact D₁
    obtain ⟨e1, e2, e3, e4, e5⟩ := htx.char
    have q1 := hz.len
    have q2 := hz.size
    refine wpAny_execs_cons (op_char (ch := ch) hA F₁ X T₀ D₁ ?_ (by show sd.off < sd.size; rw [e2, q2]; exact e4) e3 (by show sd.size < _; rw [e2, q2]; omega) e5 (fun h' tk t u F₂ D₂ => ?_) hk hy hz1)
    · show (if ("self" : Str) = "expected" then _ else _) = _
      rw [if_neg (by decide), hm _ (by decide) (by decide)]; exact hs
    refine wpAny_execs_cons (if_no (not_in2 (b := b) F₂ D₂ (if_pos rfl) ?_ (List.mem_append_right _ (List.mem_append_left _ hb)) hin hk hz1 hz2) fun h₃ tk₃ F₃ D₃ => ?_)
    · show (if ("expected" : Str) = "data" then _ else _) = _
      rw [if_neg (by decide)]
      exact if_pos rfl
    refine wpAny_execs_nil (wpAny_execs_nil ?_)
    refine ⟨h₃, tk₃, _, led w.params c { d with sd := { sd with off := sd.off + 1, ot := u } } ++ rest, rfl, F₃, by rw [List.append_assoc]; exact D₃, ?_, _, htx.step u, rfl⟩
    intro y n1 n2
    show (if y = "data" then _ else if y = "expected" then _ else _) = _
    rw [if_neg n1, if_neg n2]
    exact hm y n1 n2
  · rintro m₁ l₁ h tk ⟨hm, sd, htx, rfl⟩ F₁ D₁
    refine done h tk m₁ sd F₁ D₁ ?_ hm
    rw [hlen, List.drop_length] at htx
    exact htx
end
end
end Mine
end
-- part LQ
section
open PySem PySem.W PySem.Calls PyProof.Rows
set_option Elab.async false
set_option maxRecDepth 100000
namespace Mine
noncomputable section
section
variable {prog : Program} {w : World} {A : Around} {E : Value → Shared → Prop} {s : Shared} {h₀ : Heap} {L a : Addr} {m : Str → Option Value} {l rest : List (Addr × Obj)}
  {p : Program} {loose : List Str} {mg mb : Str → Option Value} {cn : Str} {cs : Scope} {cd : Value} {c : Cx} {d : Dy} {z : SD}

theorem newTup_ld {M : Model} {vs : List Value} {Q : Value → Shared → Prop} (F : Fr h₀ L s.heap m) (D : Ld h₀ L s.heap l)
    (h : ∀ b h', Fr h₀ L h' m → Ld h₀ L h' (l ++ [(b, { cls := .type "tuple", data := .seq vs.toArray })]) → Q (.ref b) { s with heap := h' }) (hsz : vs.length ≤ sizeLine := by size_fits) :
    wpAny M A (newTuple vs) Q E s :=
  wpAny_newObj_type (h _ _ (F.push _) (D.snoc F _)) (by show vs.toArray.size ≤ sizeLine; rw [List.size_toArray]; exact hsz)

theorem starEach_tup {env : Env} {es : List Expr} {k : Nat} {pos : Pos} (rest : List Expr) (_ : Unit) : starEach (.Tuple es k pos :: rest) env = (false, eval (.Tuple es k pos) env) :: starEach rest env := rfl

theorem kw_for5 {y1 z1 y2 z2 y3 z3 y4 z4 y5 z5 : Str} {a1 b1 c1 a2 b2 c2 a3 b3 c3 a4 b4 c4 a5 b5 c5 k k0 : Nat} {e1 f1 g1 e2 f2 g2 e3 f3 g3 e4 f4 g4 e5 f5 g5 : Pos} {x1 x2 x3 x4 x5 : Nat} {r : List Nat} {Q : Flow → Shared → Prop} {p0 p1 p2 p3 p4 p5 p6 p7 p8 p9 p10 p11 p12 p13 p14 px p15 : Pos}
    (hA : Room A 1) (F : Fr h₀ L s.heap m) (X : (Mine.hd.heap_1 w.params).In h₀) (T₀ : TopRead p loose mg mb h₀) (D : Ld h₀ L s.heap (led w.params c d ++ rest)) (hs : m "self" = some (.ref c.r)) (hz : ZOk z) (tx : TxOk z d.sd (x1 :: x2 :: x3 :: x4 :: x5 :: r))
    (h1 : (y1 == one x1 || z1 == one x1) = true) (h2 : (y2 == one x2 || z2 == one x2) = true) (h3 : (y3 == one x3 || z3 == one x3) = true) (h4 : (y4 == one x4 || z4 == one x4) = true) (h5 : (y5 == one x5 || z5 == one x5) = true)
    (done : ∀ h' tk m' sd rest', (∀ q ∈ rest, q ∈ rest') → Fr h₀ L h' m' → Ld h₀ L h' (led w.params c { d with sd := sd } ++ rest') → TxOk z sd r → (∀ y : Str, y ≠ "data" → y ≠ "expected" → m' y = m y) → Q .next { s with heap := h', toks := tk })
    (hk : cs.kind = .function := by rfl) (hy : (envOf cn cs L a cd).kindOf "self" = some .local := by rfl) (hz1 : (envOf cn cs L a cd).kindOf "data" = some .local := by rfl) (hz2 : (envOf cn cs L a cd).kindOf "expected" = some .local := by rfl) :
    wpAny (model prog w) A (exec (.For (.Name "expected" px) (.Tuple [.Tuple [.Constant (.str y1) a1 e1, .Constant (.str z1) b1 f1] c1 g1, .Tuple [.Constant (.str y2) a2 e2, .Constant (.str z2) b2 f2] c2 g2, .Tuple [.Constant (.str y3) a3 e3, .Constant (.str z3) b3 f3] c3 g3, .Tuple [.Constant (.str y4) a4 e4, .Constant (.str z4) b4 f4] c4 g4, .Tuple [.Constant (.str y5) a5 e5, .Constant (.str z5) b5 f5] c5 g5] k0 p0) [.Assign [.Name "data" p1] (.Call (.Attribute (.Attribute (.Name "self" p2) "stream" p3) "char" p4) [] [] p5) p6,
      .If (.Compare (.Name "data" p7) [.NotIn] [.Name "expected" p8] p9) [.Assign [.Name "matched" p10] (.Constant (.bool false) k p11) p12, .Break p13] [] p14] [] p15) (envOf cn cs L a cd)) Q E s := by
  refine wpAny_For ?_ ?_
  rotate_left
  · intro x; rfl
  refine Tuple_ ?_
  refine wpAny_items_cons ?_
  with_reducible refine pair_el F D fun g1 tk b1 t1 u1 F D => ?_
  refine wpAny_items_cons ?_
  with_reducible refine pair_el F D fun g2 tk b2 t2 u2 F D => ?_
  refine wpAny_items_cons ?_
  with_reducible refine pair_el F D fun g3 tk b3 t3 u3 F D => ?_
  refine wpAny_items_cons ?_
  with_reducible refine pair_el F D fun g4 tk b4 t4 u4 F D => ?_
  refine wpAny_items_cons ?_
  with_reducible refine pair_el F D fun g5 tk b5 t5 u5 F D => ?_
  refine wpAny_items_nil ?_
  refine newTup_ld F D (fun T g F D => ?_) (by show 5 ≤ sizeLine; decide)
  refine iter_tup hA.handled F D (List.mem_append_right _ (.head _)) fun I oI h' St F' D' IT => ?_
  have D' : Ld h₀ L h' ((led w.params c d ++ (rest ++ ([(b1, tup2 y1 z1 t1 u1)] ++ ([(b2, tup2 y2 z2 t2 u2)] ++ ([(b3, tup2 y3 z3 t3 u3)] ++ ([(b4, tup2 y4 z4 t4 u4)] ++ ([(b5, tup2 y5 z5 t5 u5)] ++ [(T, { cls := .type "tuple", data := .seq ([Value.ref b1, Value.ref b2, Value.ref b3, Value.ref b4, Value.ref b5] : List Value).toArray })]))))))) ++ [(I, oI)]) := by simpa only [List.append_assoc] using D'
  refine kw_loop (chs := [x1, x2, x3, x4, x5]) (r := r) hA X T₀ hz F' D' IT ⟨{ cls := .type "tuple", data := .seq ([Value.ref b1, Value.ref b2, Value.ref b3, Value.ref b4, Value.ref b5] : List Value).toArray }, by simp⟩ hs tx rfl (fun i v hv => ?_) (fun h' tk m' sd F₅ D₅ tx' hm => done h' tk m' sd _ (fun q hq => List.mem_append_left _ hq) F₅ D₅ tx' hm) hk hy hz1 hz2
  match i, hv with
  | 0, hv => exact ⟨b1, y1, z1, t1, u1, x1, by simpa using hv.symm, by simp, rfl, h1⟩
  | 1, hv => exact ⟨b2, y2, z2, t2, u2, x2, by simpa using hv.symm, by simp, rfl, h2⟩
  | 2, hv => exact ⟨b3, y3, z3, t3, u3, x3, by simpa using hv.symm, by simp, rfl, h3⟩
  | 3, hv => exact ⟨b4, y4, z4, t4, u4, x4, by simpa using hv.symm, by simp, rfl, h4⟩
  | 4, hv => exact ⟨b5, y5, z5, t5, u5, x5, by simpa using hv.symm, by simp, rfl, h5⟩
  | n + 5, hv => simp at hv

theorem kw_for6 {y1 z1 y2 z2 y3 z3 y4 z4 y5 z5 y6 z6 : Str} {a1 b1 c1 a2 b2 c2 a3 b3 c3 a4 b4 c4 a5 b5 c5 a6 b6 c6 k k0 : Nat} {e1 f1 g1 e2 f2 g2 e3 f3 g3 e4 f4 g4 e5 f5 g5 e6 f6 g6 : Pos} {x1 x2 x3 x4 x5 x6 : Nat} {r : List Nat} {Q : Flow → Shared → Prop} {p0 p1 p2 p3 p4 p5 p6 p7 p8 p9 p10 p11 p12 p13 p14 px p15 : Pos}
    (hA : Room A 1) (F : Fr h₀ L s.heap m) (X : (Mine.hd.heap_1 w.params).In h₀) (T₀ : TopRead p loose mg mb h₀) (D : Ld h₀ L s.heap (led w.params c d ++ rest)) (hs : m "self" = some (.ref c.r)) (hz : ZOk z) (tx : TxOk z d.sd (x1 :: x2 :: x3 :: x4 :: x5 :: x6 :: r))
    (h1 : (y1 == one x1 || z1 == one x1) = true) (h2 : (y2 == one x2 || z2 == one x2) = true) (h3 : (y3 == one x3 || z3 == one x3) = true) (h4 : (y4 == one x4 || z4 == one x4) = true) (h5 : (y5 == one x5 || z5 == one x5) = true) (h6 : (y6 == one x6 || z6 == one x6) = true)
    (done : ∀ h' tk m' sd rest', (∀ q ∈ rest, q ∈ rest') → Fr h₀ L h' m' → Ld h₀ L h' (led w.params c { d with sd := sd } ++ rest') → TxOk z sd r → (∀ y : Str, y ≠ "data" → y ≠ "expected" → m' y = m y) → Q .next { s with heap := h', toks := tk })
    (hk : cs.kind = .function := by rfl) (hy : (envOf cn cs L a cd).kindOf "self" = some .local := by rfl) (hz1 : (envOf cn cs L a cd).kindOf "data" = some .local := by rfl) (hz2 : (envOf cn cs L a cd).kindOf "expected" = some .local := by rfl) :
    wpAny (model prog w) A (exec (.For (.Name "expected" px) (.Tuple [.Tuple [.Constant (.str y1) a1 e1, .Constant (.str z1) b1 f1] c1 g1, .Tuple [.Constant (.str y2) a2 e2, .Constant (.str z2) b2 f2] c2 g2, .Tuple [.Constant (.str y3) a3 e3, .Constant (.str z3) b3 f3] c3 g3, .Tuple [.Constant (.str y4) a4 e4, .Constant (.str z4) b4 f4] c4 g4, .Tuple [.Constant (.str y5) a5 e5, .Constant (.str z5) b5 f5] c5 g5, .Tuple [.Constant (.str y6) a6 e6, .Constant (.str z6) b6 f6] c6 g6] k0 p0) [.Assign [.Name "data" p1] (.Call (.Attribute (.Attribute (.Name "self" p2) "stream" p3) "char" p4) [] [] p5) p6,
      .If (.Compare (.Name "data" p7) [.NotIn] [.Name "expected" p8] p9) [.Assign [.Name "matched" p10] (.Constant (.bool false) k p11) p12, .Break p13] [] p14] [] p15) (envOf cn cs L a cd)) Q E s := by
  refine wpAny_For ?_ ?_
  rotate_left
  · intro x; rfl
  refine Tuple_ ?_
  refine wpAny_items_cons ?_
  with_reducible refine pair_el F D fun g1 tk b1 t1 u1 F D => ?_
  refine wpAny_items_cons ?_
  with_reducible refine pair_el F D fun g2 tk b2 t2 u2 F D => ?_
  refine wpAny_items_cons ?_
  with_reducible refine pair_el F D fun g3 tk b3 t3 u3 F D => ?_
  refine wpAny_items_cons ?_
  with_reducible refine pair_el F D fun g4 tk b4 t4 u4 F D => ?_
  refine wpAny_items_cons ?_
  with_reducible refine pair_el F D fun g5 tk b5 t5 u5 F D => ?_
  refine wpAny_items_cons ?_
  with_reducible refine pair_el F D fun g6 tk b6 t6 u6 F D => ?_
  refine wpAny_items_nil ?_
  refine newTup_ld F D (fun T g F D => ?_) (by show 6 ≤ sizeLine; decide)
  refine iter_tup hA.handled F D (List.mem_append_right _ (.head _)) fun I oI h' St F' D' IT => ?_
  have D' : Ld h₀ L h' ((led w.params c d ++ (rest ++ ([(b1, tup2 y1 z1 t1 u1)] ++ ([(b2, tup2 y2 z2 t2 u2)] ++ ([(b3, tup2 y3 z3 t3 u3)] ++ ([(b4, tup2 y4 z4 t4 u4)] ++ ([(b5, tup2 y5 z5 t5 u5)] ++ ([(b6, tup2 y6 z6 t6 u6)] ++ [(T, { cls := .type "tuple", data := .seq ([Value.ref b1, Value.ref b2, Value.ref b3, Value.ref b4, Value.ref b5, Value.ref b6] : List Value).toArray })])))))))) ++ [(I, oI)]) := by simpa only [List.append_assoc] using D'
  refine kw_loop (chs := [x1, x2, x3, x4, x5, x6]) (r := r) hA X T₀ hz F' D' IT ⟨{ cls := .type "tuple", data := .seq ([Value.ref b1, Value.ref b2, Value.ref b3, Value.ref b4, Value.ref b5, Value.ref b6] : List Value).toArray }, by simp⟩ hs tx rfl (fun i v hv => ?_) (fun h' tk m' sd F₅ D₅ tx' hm => done h' tk m' sd _ (fun q hq => List.mem_append_left _ hq) F₅ D₅ tx' hm) hk hy hz1 hz2
  match i, hv with
  | 0, hv => exact ⟨b1, y1, z1, t1, u1, x1, by simpa using hv.symm, by simp, rfl, h1⟩
  | 1, hv => exact ⟨b2, y2, z2, t2, u2, x2, by simpa using hv.symm, by simp, rfl, h2⟩
  | 2, hv => exact ⟨b3, y3, z3, t3, u3, x3, by simpa using hv.symm, by simp, rfl, h3⟩
  | 3, hv => exact ⟨b4, y4, z4, t4, u4, x4, by simpa using hv.symm, by simp, rfl, h4⟩
  | 4, hv => exact ⟨b5, y5, z5, t5, u5, x5, by simpa using hv.symm, by simp, rfl, h5⟩
  | 5, hv => exact ⟨b6, y6, z6, t6, u6, x6, by simpa using hv.symm, by simp, rfl, h6⟩
  | n + 6, hv => simp at hv
end
end
end Mine
end
-- part LR
section
open PySem PySem.W PySem.Calls PyProof.Rows
set_option Elab.async false
set_option maxRecDepth 100000
set_option linter.unusedVariables false
namespace Mine
noncomputable section
section
variable {prog : Program} {w : World} {A : Around} {E : Value → Shared → Prop} {s : Shared} {h₀ : Heap} {L a : Addr} {m : Str → Option Value} {l rest : List (Addr × Obj)}
  {R : Result → Shared → Prop} {p : Program} {loose : List Str} {mg mb : Str → Option Value} {cn : Str} {cs : Scope} {cd : Value} {c : Cx} {d : Dy} {z : SD} {r : List Nat} {nm : Str} {pb sy : Option Str} {ok : Bool} {fs : List Str}

theorem t_true {x : Str} {b : Bool} {p1 : Pos} (F : Fr h₀ L s.heap m) (D : Ld h₀ L s.heap l) (hx : m x = some (.bool b))
    (hk : cs.kind = .function := by rfl) (hy : (envOf cn cs L a cd).kindOf x = some .local := by rfl) (hd : (x == ("__debug__" : Str)) = false := by decide) :
    Tst (model prog w) A h₀ L m l s (envOf cn cs L a cd) (.Name x p1) b := by
  intro E Q h
  exact isTrue_plain (ld F hx (wpAny_truthy_bool (h _ _ F D)) hk hy hd)

theorem st_leave {g : Heap} {L' : Addr} {m' : Str → Option Value} {M : Mc} {d' : Dy} {rest' : List (Addr × Obj)} {h' : Heap} {tk : Nat} (hR : StRet prog w c z M h₀ L m rest R s)
    (F' : Fr g L' h' m') (D' : Ld g L' h' (led w.params c d' ++ rest')) (hr : Rep prog w c z M d' rest') (hs : ∀ q ∈ rest, q ∈ rest') :
    LeaveK h₀ L m g R (.bool true) { s with heap := h', toks := tk } :=
  leaveK_ F' D'.N fun F₅ N₅ => hR d' rest' h' tk hr hs F₅ ⟨N₅, D'.nd⟩

theorem p_afterName_pub {ch x1 x2 x3 x4 x5 : Nat} (hc : ch = 112 ∨ ch = 80) (h1 : x1 = 117 ∨ x1 = 85) (h2 : x2 = 98 ∨ x2 = 66) (h3 : x3 = 108 ∨ x3 = 76) (h4 : x4 = 105 ∨ x4 = 73) (h5 : x5 = 99 ∨ x5 = 67) : Run prog w c z ⟨.afterName, ch :: x1 :: x2 :: x3 :: x4 :: x5 :: r, ⟨nm, pb, sy, ok⟩, fs, false⟩ ⟨.afterPub, r, ⟨nm, pb, sy, ok⟩, fs, false⟩ := by
  intro A s h₀ L m rest R p loose mg mb d hA F D X T₀ hz hr hq hR
  obtain ⟨hvs, e1, e2, e3, e4, e5, hzl, hnb, hpb, hsb⟩ := hr.start hz hq
  have h1' : isSp ch = false := by rcases hc with rfl | rfl <;> rfl
  have n62 : ch ≠ 62 := by rcases hc with rfl | rfl <;> decide
  refine st_enter (f := 675) hA F D X T₀ hz hr.tx (by k_is) (by k_is) rfl rfl rfl (fun g L' h₁ tk₁ m' t u F hs hd D X T hA => ?_) (by decide)
  simp only [List.length_cons] at hnb hpb hsb
  obtain ⟨vals, q1, q2⟩ := hr.q
  refine wpAny_execs_cons (if_no (t_sp F D X T hd h1') fun h₂ tk₂ F D => ?_)
  refine wpAny_execs_cons (if_no (t_eq F D hd (one_ne n62 rfl)) fun h₂ tk₂ F D => ?_)
  refine wpAny_execs_cons (if_no (t_eof F D X T hd) fun h₂ tk₂ F D => ?_)
  refine wpAny_execs_cons (if_yes (t_in2 F D hd (two_yes hc)) fun h₂ tk₂ F D => ?_)
  refine wpAny_execs_cons (wpAny_Assign_Name (wpAny_Constant_bool (stN F D.N fun h₃ F₃ N₃ => ?_)))
  have D : Ld g L' h₃ _ := ⟨N₃, D.nd⟩
  refine wpAny_execs_cons ?_
  refine @kw_for5 prog w _ _ _ _ _ _ _ _ _ _ _ _ _ _ _ _ _ _ _ _ _ _ _ _ _ _ _ _ _ _ _ _ _ _ _ _ _ _ _ _ _ _ _ _ _ _ _ _ _ _ _ _ _ _ _ _ _ _ _ _ _ _ _ _ _ _ _ _ _ _ _ _ _ _ _ _ _ _ _ _ _ _ _ _  (hA.le (by decide)) F₃ X T D ?self hz (hr.tx.step u) ?k1 ?k2 ?k3 ?k4 ?k5 (fun h₄ tk₄ m₄ sd rest' hsub F D tx hm => ?_) rfl rfl rfl rfl
  case k1 => exact two_yes h1 rfl rfl
  case k2 => exact two_yes h2 rfl rfl
  case k3 => exact two_yes h3 rfl rfl
  case k4 => exact two_yes h4 rfl rfl
  case k5 => exact two_yes h5 rfl rfl
  case self =>
    show (if ("self" : Str) = "matched" then _ else _) = _
    rw [if_neg (by decide)]; exact hs
  have hs : m₄ "self" = some (.ref c.r) := by
    rw [hm _ (by decide) (by decide)]
    show (if ("self" : Str) = "matched" then _ else _) = _
    rw [if_neg (by decide)]; exact hs
  have hmt : m₄ "matched" = some (.bool true) := by
    rw [hm _ (by decide) (by decide)]
    exact if_pos rfl
  refine wpAny_execs_cons (if_yes (t_true F D hmt) fun h₂ tk₂ F D => ?_)
  refine wpAny_execs_cons (op_state (st_fn _ .afterPub) F X D hs fun h₃ tk₃ mu F D => ?_)
  refine wpAny_execs_cons (wpAny_Return_some (wpAny_Constant_bool ?_))
  exact st_leave hR F D ⟨⟨mu, rfl, .head _⟩, tx, hr.tok, ⟨_, q1.mono fun q hq => .tail _ (hsub q hq), by simp only [q2] <;> rfl⟩, (by (try dsimp only); omega), fun y hy => by have := hpb y hy; (try dsimp only); omega, fun y hy => by have := hsb y hy; (try dsimp only); omega⟩ (fun q hq => .tail _ (hsub q hq))

theorem p_afterName_sys {ch x1 x2 x3 x4 x5 : Nat} (hc : ch = 115 ∨ ch = 83) (h1 : x1 = 121 ∨ x1 = 89) (h2 : x2 = 115 ∨ x2 = 83) (h3 : x3 = 116 ∨ x3 = 84) (h4 : x4 = 101 ∨ x4 = 69) (h5 : x5 = 109 ∨ x5 = 77) : Run prog w c z ⟨.afterName, ch :: x1 :: x2 :: x3 :: x4 :: x5 :: r, ⟨nm, pb, sy, ok⟩, fs, false⟩ ⟨.afterSys, r, ⟨nm, pb, sy, ok⟩, fs, false⟩ := by
  intro A s h₀ L m rest R p loose mg mb d hA F D X T₀ hz hr hq hR
  obtain ⟨hvs, e1, e2, e3, e4, e5, hzl, hnb, hpb, hsb⟩ := hr.start hz hq
  have h1' : isSp ch = false := by rcases hc with rfl | rfl <;> rfl
  have n62 : ch ≠ 62 := by rcases hc with rfl | rfl <;> decide
  refine st_enter (f := 675) hA F D X T₀ hz hr.tx (by k_is) (by k_is) rfl rfl rfl (fun g L' h₁ tk₁ m' t u F hs hd D X T hA => ?_) (by decide)
  simp only [List.length_cons] at hnb hpb hsb
  obtain ⟨vals, q1, q2⟩ := hr.q
  refine wpAny_execs_cons (if_no (t_sp F D X T hd h1') fun h₂ tk₂ F D => ?_)
  refine wpAny_execs_cons (if_no (t_eq F D hd (one_ne n62 rfl)) fun h₂ tk₂ F D => ?_)
  refine wpAny_execs_cons (if_no (t_eof F D X T hd) fun h₂ tk₂ F D => ?_)
  refine wpAny_execs_cons (if_no (t_in2 F D hd (two_ne (a := 112) (b := 80) (by rcases hc with rfl | rfl <;> decide) (by rcases hc with rfl | rfl <;> decide) rfl rfl)) fun h₂ tk₂ F D => ?_)
  refine wpAny_execs_cons (if_yes (t_in2 F D hd (two_yes hc)) fun h₂ tk₂ F D => ?_)
  refine wpAny_execs_cons (wpAny_Assign_Name (wpAny_Constant_bool (stN F D.N fun h₃ F₃ N₃ => ?_)))
  have D : Ld g L' h₃ _ := ⟨N₃, D.nd⟩
  refine wpAny_execs_cons ?_
  refine @kw_for5 prog w _ _ _ _ _ _ _ _ _ _ _ _ _ _ _ _ _ _ _ _ _ _ _ _ _ _ _ _ _ _ _ _ _ _ _ _ _ _ _ _ _ _ _ _ _ _ _ _ _ _ _ _ _ _ _ _ _ _ _ _ _ _ _ _ _ _ _ _ _ _ _ _ _ _ _ _ _ _ _ _ _ _ _ _  (hA.le (by decide)) F₃ X T D ?self hz (hr.tx.step u) ?k1 ?k2 ?k3 ?k4 ?k5 (fun h₄ tk₄ m₄ sd rest' hsub F D tx hm => ?_) rfl rfl rfl rfl
  case k1 => exact two_yes h1 rfl rfl
  case k2 => exact two_yes h2 rfl rfl
  case k3 => exact two_yes h3 rfl rfl
  case k4 => exact two_yes h4 rfl rfl
  case k5 => exact two_yes h5 rfl rfl
  case self =>
    show (if ("self" : Str) = "matched" then _ else _) = _
    rw [if_neg (by decide)]; exact hs
  have hs : m₄ "self" = some (.ref c.r) := by
    rw [hm _ (by decide) (by decide)]
    show (if ("self" : Str) = "matched" then _ else _) = _
    rw [if_neg (by decide)]; exact hs
  have hmt : m₄ "matched" = some (.bool true) := by
    rw [hm _ (by decide) (by decide)]
    exact if_pos rfl
  refine wpAny_execs_cons (if_yes (t_true F D hmt) fun h₂ tk₂ F D => ?_)
  refine wpAny_execs_cons (op_state (st_fn _ .afterSys) F X D hs fun h₃ tk₃ mu F D => ?_)
  refine wpAny_execs_cons (wpAny_Return_some (wpAny_Constant_bool ?_))
  exact st_leave hR F D ⟨⟨mu, rfl, .head _⟩, tx, hr.tok, ⟨_, q1.mono fun q hq => .tail _ (hsub q hq), by simp only [q2] <;> rfl⟩, (by (try dsimp only); omega), fun y hy => by have := hpb y hy; (try dsimp only); omega, fun y hy => by have := hsb y hy; (try dsimp only); omega⟩ (fun q hq => .tail _ (hsub q hq))

end
end
end Mine
end
-- part LS
section
open PySem PySem.W PySem.Calls PyProof.Rows
set_option Elab.async false
set_option maxRecDepth 100000
namespace Mine
noncomputable section
section
open Builtin Builtin.Str
variable {prog : Program} {w : World} {A : Around} {E : Value → Shared → Prop} {s : Shared}
theorem gives_count4 (x y : Str) (i j : Int) (t u v v' : Tok) : ∃ n : Int, Gives («str.count» ⟨[.str x t, .str y u, .int i v, .int j v'], []⟩) (.int n) := ⟨_, .of_eq rfl⟩
theorem gives_rfind4 (x y : Str) (i j : Int) (t u v v' : Tok) : ∃ n : Int, Gives («str.rfind» ⟨[.str x t, .str y u, .int i v, .int j v'], []⟩) (.int n) := by
  cases q : lastOccurrence x y (fromIndex x.length i) (min (fromIndex x.length j) x.length) with
  | none =>
    refine ⟨-1, ?_⟩
    show Gives (match lastOccurrence x y (fromIndex x.length i) (min (fromIndex x.length j) x.length) with | some i => retInt i | none => (do rule "str.rfind.not-found"; retInt (-1))) _
    rw [q]
    exact .rule (.of_eq rfl)
  | some k =>
    refine ⟨k, ?_⟩
    show Gives (match lastOccurrence x y (fromIndex x.length i) (min (fromIndex x.length j) x.length) with | some i => retInt i | none => (do rule "str.rfind.not-found"; retInt (-1))) _
    rw [q]
    exact .of_eq rfl
theorem count4 {x y : Str} {i j : Int} {t u v v' : Tok} {Q : Value → Shared → Prop} (h : ∀ n : Int, Q (.int n s.toks) { s with toks := s.toks + 1 }) : wpAny (model prog w) A (call (.builtin "str.count") [.str x t, .str y u, .int i v, .int j v']) Q E s :=
  let ⟨n, g⟩ := gives_count4 x y i j t u v v'
  call_gives F.slot_str_count (typeIs_str _ _ _) F.entry_str_count (F.args_str_count_4 _ _ _ _) g (h n)
theorem rfind4 {x y : Str} {i j : Int} {t u v v' : Tok} {Q : Value → Shared → Prop} (h : ∀ n : Int, Q (.int n s.toks) { s with toks := s.toks + 1 }) : wpAny (model prog w) A (call (.builtin "str.rfind") [.str x t, .str y u, .int i v, .int j v']) Q E s :=
  let ⟨n, g⟩ := gives_rfind4 x y i j t u v v'
  call_gives F.slot_str_rfind (typeIs_str _ _ _) F.entry_str_rfind (F.args_str_rfind_4 _ _ _ _) g (h n)
end
end
end Mine
end
-- part LT
section
open PySem PySem.W PySem.Calls PyProof.Rows
set_option Elab.async false
set_option maxRecDepth 100000
namespace Mine
noncomputable section

/-- the object at an address, changed -/
noncomputable def setO (a : Addr) (o : Obj) (l : List (Addr × Obj)) : List (Addr × Obj) := l.map fun p => if p.1 = a then (a, o) else p
section
variable {a b : Addr} {o o' x : Obj} {l : List (Addr × Obj)}
theorem setO_fst : (setO a o l).map (·.1) = l.map (·.1) := by
  unfold setO
  rw [List.map_map]
  refine List.map_congr_left fun p _ => ?_
  show (if p.1 = a then (a, o) else p).1 = p.1
  split
  · next h => exact h.symm
  · rfl
theorem setO_off (h : ∀ p ∈ l, p.1 ≠ a) : setO a o l = l := by
  have e : ∀ p ∈ l, (if p.1 = a then (a, o) else p) = p := fun p hp => if_neg (h p hp)
  exact (List.map_congr_left (g := fun p => p) e).trans (List.map_id' l)
theorem setO_upd : ∀ {l : List (Addr × Obj)}, (l.map (·.1)).Nodup → (a, o) ∈ l → Upd a o o' l (setO a o' l)
  | [], _, h => by cases h
  | (b, x) :: l, nd, h => by
    have n1 := List.nodup_cons.mp nd
    rcases List.mem_cons.mp h with e | e
    · cases e
      have off : ∀ p ∈ l, p.1 ≠ a := fun p hp q => n1.1 (List.mem_map.mpr ⟨p, hp, q⟩)
      have : setO a o' ((a, o) :: l) = (a, o') :: setO a o' l := by simp [setO]
      rw [this, setO_off off]
      exact .head off
    · have ne : b ≠ a := fun q => n1.1 (List.mem_map.mpr ⟨_, e, q.symm⟩)
      have : setO a o' ((b, x) :: l) = (b, x) :: setO a o' l := by simp [setO, ne]
      rw [this]
      exact .tail ne (setO_upd n1.2 e)
theorem setO_self (h : (a, o) ∈ l) : (a, o') ∈ setO a o' l := List.mem_map.mpr ⟨_, h, if_pos rfl⟩
theorem setO_ne (h : (b, x) ∈ l) (n : b ≠ a) : (b, x) ∈ setO a o' l := List.mem_map.mpr ⟨_, h, if_neg n⟩
theorem setO_setO : setO a o' (setO a o l) = setO a o' l := by
  unfold setO
  rw [List.map_map]
  refine List.map_congr_left fun p _ => ?_
  show (if (if p.1 = a then (a, o) else p).1 = a then (a, o') else (if p.1 = a then (a, o) else p)) = _
  by_cases h : p.1 = a
  · simp [h]
  · simp [h]
theorem setO_comm (n : a ≠ b) : setO a o (setO b o' l) = setO b o' (setO a o l) := by
  unfold setO
  rw [List.map_map, List.map_map]
  refine List.map_congr_left fun p _ => ?_
  show (if (if p.1 = b then (b, o') else p).1 = a then (a, o) else (if p.1 = b then (b, o') else p)) = (if (if p.1 = a then (a, o) else p).1 = b then (b, o') else (if p.1 = a then (a, o) else p))
  by_cases h : p.1 = a
  · have : p.1 ≠ b := fun q => n (h.symm.trans q)
    simp [h, n]
  · by_cases h2 : p.1 = b
    · simp [h2, Ne.symm n]
    · simp [h, h2]
theorem nodup_ne (nd : (l.map (·.1)).Nodup) (h1 : (a, o) ∈ l) (h2 : (b, x) ∈ l) (n : o ≠ x) : a ≠ b := by
  rintro rfl
  induction l with
  | nil => cases h1
  | cons p l ih =>
    have n1 := List.nodup_cons.mp nd
    rcases List.mem_cons.mp h1 with e | e
    · rcases List.mem_cons.mp h2 with q | q
      · exact n (by cases e; cases q; rfl)
      · exact n1.1 (by rw [← e]; exact List.mem_map.mpr ⟨_, q, rfl⟩)
    · rcases List.mem_cons.mp h2 with q | q
      · exact n1.1 (by rw [← q]; exact List.mem_map.mpr ⟨_, e, rfl⟩)
      · exact ih n1.2 e q
end
theorem setO_nd {a : Addr} {o : Obj} {l : List (Addr × Obj)} (nd : (l.map (·.1)).Nodup) : ((setO a o l).map (·.1)).Nodup := by rw [setO_fst]; exact nd

noncomputable def tE (P : Params) (T : Nat → Tok) (x : Str) (t : Tok) (pl : Int) (u : Tok) : List DictEntry := [ent P "text" (T 0) (.str x t), ent P "place" (T 1) (.int pl u)]
theorem tE_text (P T x t pl u) : getL "text" (tE P T x t pl u) = some (some (.str x t)) := by kernel_rfl
theorem tE_place (P T x t pl u) : getL "place" (tE P T x t pl u) = some (some (.int pl u)) := by kernel_rfl
theorem tE_set (P T x t pl u v q k n) : (putL "place" (PyData.keyHash P "place") (.str "place" k) (.int v q) (tE P T x t pl u), putN "place" (tE P T x t pl u) n) = (tE P T x t v q, n) := by kernel_rfl
theorem sE_pl (P T d) : getL "prevNumLines" (sE P T d) = some (some d.pl) := by kernel_rfl
theorem sE_pc (P T d) : getL "prevNumCols" (sE P T d) = some (some d.pc) := by kernel_rfl
theorem sE_bc (P T d) : getL "_bufferedCharacter" (sE P T d) = some (some d.bc) := by kernel_rfl
theorem sE_tx (P T d) : getL "dataStream" (sE P T d) = some (some d.tx) := by kernel_rfl
theorem sE_rce (P T d) : getL "reportCharacterErrors" (sE P T d) = some (some d.rce) := by kernel_rfl
theorem sE_def (P T d) : getL "_defaultChunkSize" (sE P T d) = some none := by kernel_rfl
theorem sE_mpos (P T d) : getL "_position" (sE P T d) = some none := by kernel_rfl
theorem sE_mread (P T d) : getL "readChunk" (sE P T d) = some none := by kernel_rfl
theorem tE_read (P T x t pl u) : getL "read" (tE P T x t pl u) = some none := by kernel_rfl
theorem sE_spl (P T d v k n) : (putL "prevNumLines" (PyData.keyHash P "prevNumLines") (.str "prevNumLines" k) v (sE P T d), putN "prevNumLines" (sE P T d) n) = (sE P T {d with pl := v}, n) := by kernel_rfl
theorem sE_spc (P T d v k n) : (putL "prevNumCols" (PyData.keyHash P "prevNumCols") (.str "prevNumCols" k) v (sE P T d), putN "prevNumCols" (sE P T d) n) = (sE P T {d with pc := v}, n) := by kernel_rfl
theorem sE_schunk (P T d v u k n) : (putL "chunk" (PyData.keyHash P "chunk") (.str "chunk" k) (.str v u) (sE P T d), putN "chunk" (sE P T d) n) = (sE P T {d with chunk := v, ct := u}, n) := by kernel_rfl
theorem sE_ssize (P T d v u k n) : (putL "chunkSize" (PyData.keyHash P "chunkSize") (.str "chunkSize" k) (.int v u) (sE P T d), putN "chunkSize" (sE P T d) n) = (sE P T {d with size := v, szt := u}, n) := by kernel_rfl

section
variable {P : Params}
theorem cs_pl : findIn (Mine.hd.heap_1 P) (.ref 166) "prevNumLines" = some none := by k_is
theorem cs_pc : findIn (Mine.hd.heap_1 P) (.ref 166) "prevNumCols" = some none := by k_is
theorem cs_bc : findIn (Mine.hd.heap_1 P) (.ref 166) "_bufferedCharacter" = some none := by k_is
theorem cs_tx : findIn (Mine.hd.heap_1 P) (.ref 166) "dataStream" = some none := by k_is
theorem cs_rce : findIn (Mine.hd.heap_1 P) (.ref 166) "reportCharacterErrors" = some none := by k_is
theorem cs_tpl : takerIn (Mine.hd.heap_1 P) 166 "prevNumLines" = some none := by k_is
theorem cs_tpc : takerIn (Mine.hd.heap_1 P) 166 "prevNumCols" = some none := by k_is
theorem cs_tchunk : takerIn (Mine.hd.heap_1 P) 166 "chunk" = some none := by k_is
theorem cs_tsize : takerIn (Mine.hd.heap_1 P) 166 "chunkSize" = some none := by k_is
theorem cs_mpos : findIn (Mine.hd.heap_1 P) (.ref 166) "_position" = some (some (.ref 119)) := by k_is
theorem cs_mread : findIn (Mine.hd.heap_1 P) (.ref 166) "readChunk" = some (some (.ref 141)) := by k_is
theorem fn_pos : isFn (Mine.hd.heap_1 P) (.ref 119) = true := by k_is
theorem fn_rc : isFn (Mine.hd.heap_1 P) (.ref 141) = true := by k_is
theorem fn_tread : isFn (Mine.hd.heap_1 P) (.ref 70) = true := by k_is
theorem kp_pos : keepIn (Mine.hd.heap_1 P) (.ref 119) = true := by k_is
theorem kp_rc : keepIn (Mine.hd.heap_1 P) (.ref 141) = true := by k_is
theorem kp_tread : keepIn (Mine.hd.heap_1 P) (.ref 70) = true := by k_is
theorem ct_dict : hasDictIn (Mine.hd.heap_1 P) 73 = true := by k_is
theorem ct_get1 : plainGet (Mine.hd.heap_1 P) 73 "text" = true := by k_is
theorem ct_get (n : Str) : plainGet (Mine.hd.heap_1 P) 73 n = true := ct_get1
theorem ct_over : plainOver (Mine.hd.heap_1 P) 73 = true := by k_is
theorem ct_set : findIn (Mine.hd.heap_1 P) (.ref 73) "__setattr__" = some (some (.builtin "object.__setattr__")) := by k_is
theorem ct_text : findIn (Mine.hd.heap_1 P) (.ref 73) "text" = some none := by k_is
theorem ct_place : findIn (Mine.hd.heap_1 P) (.ref 73) "place" = some none := by k_is
theorem ct_tplace : takerIn (Mine.hd.heap_1 P) 73 "place" = some none := by k_is
theorem ct_read : findIn (Mine.hd.heap_1 P) (.ref 73) "read" = some (some (.ref 70)) := by k_is
theorem cs_def : ∃ u, findIn (Mine.hd.heap_1 P) (.ref 166) "_defaultChunkSize" = some (some (.int 10240 u)) := ⟨_, by k_is⟩
end
end
end Mine
end
-- part LU
section
open PySem PySem.W PySem.Calls PyProof.Rows
set_option Elab.async false
set_option maxRecDepth 100000
namespace Mine
noncomputable section
section
open Builtin Builtin.Str StrLaws
noncomputable def nocr (l : List Nat) : List Nat := l.filter (· != 13)
noncomputable def normS (x : Str) : Str := ⟨(nocr x.cps.toList).toArray⟩
noncomputable def Crlf (l : List Nat) : Prop := ∀ k, l[k]? = some 13 → l[k + 1]? = some 10
theorem nocr_append (a b : List Nat) : nocr (a ++ b) = nocr a ++ nocr b := List.filter_append ..
theorem nocr_free {l : List Nat} (h : 13 ∉ l) : nocr l = l := List.filter_eq_self.mpr fun a ha => by
  simp only [bne_iff_ne, ne_eq]
  rintro rfl
  exact h ha
theorem nocr_join : ∀ parts : List Str, (∀ p ∈ parts, 13 ∉ p.cps.toList) → nocr (Str.join ⟨#[13, 10]⟩ parts).cps.toList = (Str.join ⟨#[10]⟩ parts).cps.toList
  | [], _ => rfl
  | [p], h => nocr_free (h p (List.mem_singleton.mpr rfl))
  | p :: q :: r, h => by
    have ih := nocr_join (q :: r) fun a ha => h a (List.mem_cons_of_mem _ ha)
    show nocr (p ++ ⟨#[13, 10]⟩ ++ Str.join ⟨#[13, 10]⟩ (q :: r)).cps.toList = (p ++ ⟨#[10]⟩ ++ Str.join ⟨#[10]⟩ (q :: r)).cps.toList
    simp only [Str.cps_append, Array.toList_append]
    rw [nocr_append, nocr_append, ih, nocr_free (h p (List.mem_cons_self ..))]
    rfl
theorem at_crlf {x : Str} (hx : Crlf x.cps.toList) {k : Nat} (h : x.cps.toList[k]? = some 13) : At x ⟨#[13, 10]⟩ x.length k := by
  have h2 := hx k h
  have l2 := (List.getElem?_eq_some_iff.mp h2).1
  have hl : x.cps.toList.length = x.length := by simp [Str.length]
  refine ⟨by show k + 2 ≤ _; omega, ?_⟩
  rw [subAt_eq]
  show ((x.cps.toList.drop k).take 2 == [13, 10]) = true
  have e : x.cps.toList.drop k = 13 :: 10 :: x.cps.toList.drop (k + 2) := by
    obtain ⟨a, b⟩ := List.getElem?_eq_some_iff.mp h
    obtain ⟨a', b'⟩ := List.getElem?_eq_some_iff.mp h2
    rw [List.drop_eq_getElem_cons a, b, List.drop_eq_getElem_cons a', b']
  rw [e]; rfl
theorem parts_nocr {x : Str} (hx : Crlf x.cps.toList) {a b : Nat} (hn : ∀ k, a ≤ k → k < b → ¬ At x ⟨#[13, 10]⟩ x.length k) : 13 ∉ (strSub x a b).cps.toList := by
  intro hm
  rw [strSub_toList] at hm
  obtain ⟨j, hj⟩ := List.getElem?_of_mem hm
  have hlt : j < b - a := by
    have h1 : j < ((x.cps.toList.drop a).take (b - a)).length := (List.getElem?_eq_some_iff.mp hj).1
    simp at h1
    omega
  rw [List.getElem?_take_of_lt hlt, List.getElem?_drop] at hj
  exact hn (a + j) (by omega) (by omega) (at_crlf hx hj)
theorem partsFrom_nocr {x : Str} (hx : Crlf x.cps.toList) : ∀ (cuts : List Nat) (a f : Nat), ChainG x ⟨#[13, 10]⟩ x.length a cuts f → (∀ k, f ≤ k → ¬ At x ⟨#[13, 10]⟩ x.length k) → ∀ p ∈ partsFrom x 2 a cuts, 13 ∉ p.cps.toList
  | [], a, f, h, hn, p, hp => by
    have e : f = a := h
    subst e
    rw [List.mem_singleton.mp hp]
    exact parts_nocr hx fun k h1 _ => hn k h1
  | d :: r, a, f, h, hn, p, hp => by
    rcases List.mem_cons.mp hp with rfl | hp'
    · exact parts_nocr hx h.2.2.1
    · exact partsFrom_nocr hx r _ f h.2.2.2 hn p hp'
theorem replace_crlf {x : Str} (hx : Crlf x.cps.toList) : Txt.replace x ⟨#[13, 10]⟩ ⟨#[10]⟩ = normS x := by
  obtain ⟨f, hG, hn⟩ := occ_tight x ⟨#[13, 10]⟩ (by decide)
  obtain ⟨f', hC⟩ := occ_chain x ⟨#[13, 10]⟩ (x.length + 1)
  have hf := partsFrom_nocr hx _ _ f hG hn
  have hj := join_partsFrom x ⟨#[13, 10]⟩ _ 0 f' hC
  rw [sub_whole] at hj
  have key := nocr_join _ hf
  have e2 : (2 : Nat) = (⟨#[13, 10]⟩ : Str).length := rfl
  rw [show Str.join ⟨#[13, 10]⟩ (partsFrom x 2 0 (occurrences x ⟨#[13, 10]⟩ 0 x.length (x.length + 1))) = x from hj] at key
  have e3 : normS x = Str.join ⟨#[10]⟩ (partsFrom x 2 0 (occurrences x ⟨#[13, 10]⟩ 0 x.length (x.length + 1))) := by
    apply Str.ext'
    apply Array.toList_inj.mp
    show nocr x.cps.toList = _
    exact key
  unfold Txt.replace
  have h10 : ((⟨#[13, 10]⟩ : Str).length == 0) = false := rfl
  rw [h10, Bool.false_and, Bool.or_false]
  cases he : (occurrences x ⟨#[13, 10]⟩ 0 x.length (x.length + 1)).isEmpty
  · rw [if_neg Bool.false_ne_true, glued_eq_join, partsBetween_eq, e3]
    rfl
  · rw [if_pos rfl]
    have e0 := List.isEmpty_iff.mp he
    rw [e0] at e3
    rw [e3]
    show x = strSub x 0 x.length
    rw [sub_whole]
theorem replace_cr {x : Str} (hx : 13 ∉ x.cps.toList) (z : Str) : Txt.replace x ⟨#[13]⟩ z = x := by
  unfold Txt.replace
  have h10 : ((⟨#[13]⟩ : Str).length == 0) = false := rfl
  rw [h10, Bool.false_and, Bool.or_false]
  cases ho : occurrences x ⟨#[13]⟩ 0 x.length (x.length + 1) with
  | nil => rfl
  | cons i r =>
    obtain ⟨f, h⟩ := occ_chain x ⟨#[13]⟩ (x.length + 1)
    rw [ho] at h
    exact absurd (List.mem_of_getElem? ((subAt_one x 13 i).mp h.2.1)) hx
theorem normS_nocr (x : Str) : 13 ∉ (normS x).cps.toList := by
  intro h
  have : 13 ∈ nocr x.cps.toList := by simpa [normS] using h
  have := (List.mem_filter.mp this).2
  simp at this
theorem slice_hi {x : Str} {i j : Int} (h : (x.length : Int) ≤ j) : Txt.slice x (some i) (some j) = Txt.slice x (some i) none := by
  have e : strSliceIndices (some i) (some j) 1 x.length = strSliceIndices (some i) none 1 x.length := by
    have h1 : ¬ j < 0 := by omega
    have h2 : (1 : Int) > 0 := by decide
    have h3 : max (0 : Int) (x.length : Int) = x.length := by omega
    simp only [strSliceIndices, h1, h2, if_false, if_true, Int.min_eq_right h, h3]
  unfold Txt.slice
  rw [e]
theorem slice_all {x : Str} {j : Int} (h : (x.length : Int) ≤ j) : Txt.slice x (some 0) (some j) = x := by
  rw [slice_hi h, slice_from_eq (b := (x.length : Int)) (by omega) (by omega) rfl]
  apply Str.ext'
  apply Array.toList_inj.mp
  show (x.cps.toList.drop 0).take _ = x.cps.toList
  rw [List.drop_zero]
  exact List.take_of_length_le (by simp [Str.length])
theorem slice_end {x : Str} {i j : Int} (h : (x.length : Int) ≤ i) (hj : i ≤ j) : Txt.slice x (some i) (some j) = Str.empty := by
  rw [slice_hi (by omega), slice_beyond h]
theorem slice_from {x : Str} {i : Nat} (h : i ≤ x.length) : Txt.slice x (some (i : Int)) none = ⟨(x.cps.toList.drop i).toArray⟩ := by
  rw [slice_from_eq (b := (x.length : Int)) (by omega) (by omega) rfl]
  apply Str.ext'
  apply Array.toList_inj.mp
  show (x.cps.toList.drop i).take _ = x.cps.toList.drop i
  exact List.take_of_length_le (by simp [Str.length])
end
end
end Mine
end
-- part LV
section
open PySem PySem.W PySem.Calls PyProof.Rows
set_option Elab.async false
set_option maxRecDepth 100000
namespace Mine
noncomputable section

/-- a stream in a ledger -/
structure SL (P : Params) (l : List (Addr × Obj)) (st sd : Addr) (T : Nat → Tok) (d : SD) (n : Nat) : Prop where
  h1 : (st, instObj 166 sd) ∈ l
  h2 : (sd, dictOf (sE P T d) n) ∈ l
theorem inst_ne_dict {C dx : Addr} {es : List DictEntry} {n : Nat} : instObj C dx ≠ dictOf es n := by
  intro h
  have := congrArg Obj.dict h
  cases this
theorem meth_ne_dict {f x : Value} {es : List DictEntry} {n : Nat} : methodObj f x ≠ dictOf es n := by
  intro h
  have := congrArg Obj.data h
  cases this
theorem SL.set {P : Params} {l : List (Addr × Obj)} {st sd : Addr} {T : Nat → Tok} {d : SD} {n : Nat} (S : SL P l st sd T d n) (nd : (l.map (·.1)).Nodup) (d' : SD) (n' : Nat) : SL P (setO sd (dictOf (sE P T d') n') l) st sd T d' n' :=
  ⟨setO_ne S.h1 (nodup_ne nd S.h1 S.h2 inst_ne_dict), setO_self S.h2⟩

section
variable {prog : Program} {w : World} {A : Around} {E : Value → Shared → Prop} {s : Shared} {h₀ : Heap} {L a : Addr} {m : Str → Option Value} {l : List (Addr × Obj)}
  {R : Result → Shared → Prop} {p : Program} {loose : List Str} {mg mb : Str → Option Value} {cn : Str} {cs : Scope} {cd : Value} {st sd : Addr} {TS : Nat → Tok} {d : SD} {n : Nat}

theorem s_set {nm : Str} {v : Value} {d' : SD} {n' : Nat} {Q : Unit → Shared → Prop} (F : Fr h₀ L s.heap m) (X : (Mine.hd.heap_1 w.params).In h₀) (D : Ld h₀ L s.heap l) (S : SL w.params l st sd TS d n)
    (htk : takerIn (Mine.hd.heap_1 w.params) 166 nm = some none) (hold : (getL nm (sE w.params TS d)).isSome = true)
    (hset : ∀ k, (putL nm (PyData.keyHash w.params nm) (.str nm k) v (sE w.params TS d), putN nm (sE w.params TS d) n) = (sE w.params TS d', n'))
    (h : ∀ h', Fr h₀ L h' m → Ld h₀ L h' (setO sd (dictOf (sE w.params TS d') n') l) → SL w.params (setO sd (dictOf (sE w.params TS d') n') l) st sd TS d' n' → Q () { s with heap := h', toks := s.toks + 2 }) :
    wpAny (model prog w) A (setAttr (.ref st) nm v) Q E s :=
  set_dict F X D.N (InstAt.of_news D.N S.h1 S.h2) rfl cs_set cs_over htk cs_dict hold (hset _) (setO_upd D.nd S.h2) (Nat.le_of_ble_eq_true rfl) fun h' F' N' => h h' F' ⟨N', setO_nd D.nd⟩ (S.set D.nd _ _)

theorem callWith_bs {M : Model} {env : Env} {pos pos' : Pos} {id : String} {first : List Value} {e : Expr} {rest : List Expr} {Q : Value → Shared → Prop}
    (h : wpAny M A (spliced (backTo pos' (starEach (e :: rest) env))) (fun vs s₁ => wpAny M A (call (.builtin id) (first ++ vs)) Q E s₁) E s)
    (he : starEach (e :: rest) env = (false, eval e env) :: starEach rest env := by rfl) (hp : (backTo pos' (starEach (e :: rest) env)).any (·.1) = false := by rfl) :
    wpAny M A (callWith pos (.builtin id) first (backTo pos' (starEach (e :: rest) env)) []) Q E s := by
  refine callWith_builtin hp ?_
  rw [he] at h ⊢
  refine evalArgs_plain (wpAny_mono h (fun vs s' q => ?_) fun _ _ x => x)
  exact q
theorem ret_tuple2 {M : Model} {x y : Str} {vx vy : Value} {k : Nat} {p1 p2 p3 p4 : Pos} {Q : Flow → Shared → Prop} (F : Fr h₀ L s.heap m) (D : Ld h₀ L s.heap l) (hx : m x = some vx) (hy : m y = some vy)
    (h : ∀ b h', Fr h₀ L h' m → Ld h₀ L h' (l ++ [(b, { cls := .type "tuple", data := .seq ([vx, vy] : List Value).toArray })]) → Q (.ret (.ref b)) { s with heap := h' })
    (hk : cs.kind = .function := by rfl) (h1 : (envOf cn cs L a cd).kindOf x = some .local := by rfl) (h2 : (envOf cn cs L a cd).kindOf y = some .local := by rfl) (hd : (x == ("__debug__" : Str)) = false := by decide) (hd' : (y == ("__debug__" : Str)) = false := by decide) :
    wpAny M A (exec (.Return (some (.Tuple [.Name x p1, .Name y p2] k p3)) p4) (envOf cn cs L a cd)) Q E s :=
  wpAny_Return_some (Tuple_ (wpAny_items_cons (ld F hx (wpAny_items_cons (ld F hy (wpAny_items_nil (newTup_ld F D h (by show 2 ≤ sizeLine; decide))) hk h2 hd')) hk h1 hd)))

theorem bool_if {b : Bool} {P Q : Prop} (h1 : b = true → P) (h2 : b = false → Q) : if b = true then P else Q := by
  cases b
  · rw [if_neg Bool.false_ne_true]; exact h2 rfl
  · rw [if_pos rfl]; exact h1 rfl
theorem position_in {off a b : Int} {u ua ub : Tok} (hA : Room A 1) (F : Fr h₀ L s.heap m) (D : Ld h₀ L s.heap l) (X : (Mine.hd.heap_1 w.params).In h₀) (T₀ : TopRead p loose mg mb h₀)
    (S : SL w.params l st sd TS d n) (ha : d.pl = .int a ua) (hb : d.pc = .int b ub)
    (hR : ∀ (x y : Int) t t' q h' tk, Fr h₀ L h' m → Ld h₀ L h' (l ++ [(q, { cls := .type "tuple", data := .seq ([.int x t, .int y t'] : List Value).toArray })]) → R (.ok (.ret (.ref q))) { s with heap := h', toks := tk }) :
    codeAny (model prog w) A (.call (.ref 119) ⟨[.ref st, .int off u], []⟩) R s := by
  refine call_M (binds := [("self", .ref st), ("offset", .int off u)]) hA.lt F D.N X T₀ (f := 119) (by k_is) (by k_is) (BindsTo.of_eq rfl) (locs rfl) (fun g L' h₁ F₁ N₁ X₁ T₁ lt => ?_) (by decide)
  have D₁ : Ld g L' h₁ l := ⟨N₁, D.nd⟩
  have hl1 : getL "prevNumLines" (sE w.params TS d) = some (some (.int a ua)) := (sE_pl _ _ _).trans (by rw [ha])
  have hl2 : getL "prevNumCols" (sE w.params TS d) = some (some (.int b ub)) := (sE_pc _ _ _).trans (by rw [hb])
  refine wpAny_execs_cons (wpAny_Assign_Name (s_chunk F₁ X₁ N₁ rfl S.h1 S.h2 (stN F₁ N₁ fun h₂ F₂ N₂ => ?_)))
  refine wpAny_execs_cons (wpAny_Assign_Name (MethodCall_ (ld F₂ rfl (GM.count ?_))))
  refine callWith_bs (wpAny_items_cons (wpAny_Constant_str (wpAny_items_cons (wpAny_Constant_int (wpAny_items_cons (ld F₂ rfl (wpAny_items_nil (count4 fun q1 => ?_))))))))
  refine stN F₂ N₂ fun h₃ F₃ N₃ => ?_
  refine wpAny_execs_cons (wpAny_Assign_Name (wpAny_BinOp (fld F₃ X₁ N₃ rfl S.h1 S.h2 (cs_get _) cs_dict cs_pl hl1 rfl (ld F₃ rfl ?_))))
  refine (PyProof.Rows.add_int (stN F₃ N₃ fun h₄ F₄ N₄ => ?_))
  refine wpAny_execs_cons (wpAny_Assign_Name (MethodCall_ (ld F₄ rfl (GM.rfind ?_))))
  refine callWith_bs (wpAny_items_cons (wpAny_Constant_str (wpAny_items_cons (wpAny_Constant_int (wpAny_items_cons (ld F₄ rfl (wpAny_items_nil (rfind4 fun q2 => ?_))))))))
  refine stN F₄ N₄ fun h₅ F₅ N₅ => ?_
  refine wpAny_execs_cons (wpAny_If (wpAny_isTrue_Compare1 (ld F₅ rfl (wpAny_UnaryOp (wpAny_Constant_int (PyProof.Rows.neg_int (PyProof.Rows.eq_int (wpAny_truthy_bool ?_))))))))
  refine bool_if (fun _ => ?_) (fun _ => ?_)
  · refine wpAny_execs_cons (wpAny_Assign_Name (wpAny_BinOp (fld F₅ X₁ N₅ rfl S.h1 S.h2 (cs_get _) cs_dict cs_pc hl2 rfl (ld F₅ rfl ?_))))
    refine (PyProof.Rows.add_int (stN F₅ N₅ fun h₆ F₆ N₆ => ?_))
    refine wpAny_execs_nil (wpAny_execs_cons (ret_tuple2 F₆ ⟨N₆, D.nd⟩ rfl rfl fun b h₇ F₇ D₇ => ?_))
    exact leaveK_ F₇ D₇.N fun F₈ N₈ => hR _ _ _ _ _ _ _ F₈ ⟨N₈, D₇.nd⟩
  · refine wpAny_execs_cons (wpAny_Assign_Name (wpAny_BinOp (ld F₅ rfl (wpAny_BinOp (ld F₅ rfl (wpAny_Constant_int (PyProof.Rows.add_int (PyProof.Rows.sub_int (stN F₅ N₅ fun h₆ F₆ N₆ => ?_)))))))))
    refine wpAny_execs_nil (wpAny_execs_cons (ret_tuple2 F₆ ⟨N₆, D.nd⟩ rfl rfl fun b h₇ F₇ D₇ => ?_))
    exact leaveK_ F₇ D₇.N fun F₈ N₈ => hR _ _ _ _ _ _ _ F₈ ⟨N₈, D₇.nd⟩
end
end
end Mine
end
-- part LW
section
open PySem PySem.W PySem.Calls PyProof.Rows
set_option Elab.async false
set_option maxRecDepth 100000
namespace Mine
noncomputable section
section
variable {P : Params}
theorem g_len : nsIn (Mine.hd.heap_1 P) mainGlobals "len" = some none := by k_is
theorem g_ord : nsIn (Mine.hd.heap_1 P) mainGlobals "ord" = some none := by k_is
theorem g_inv : nsIn (Mine.hd.heap_1 P) mainGlobals "_is_invalid" = some (some (.ref 84)) := by k_is
theorem kp_inv : keepIn (Mine.hd.heap_1 P) (.ref 84) = true := by k_is
end
section
variable {prog : Program} {w : World} {A : Around} {E : Value → Shared → Prop} {s : Shared} {h₀ : Heap} {L a : Addr} {m : Str → Option Value} {l : List (Addr × Obj)}
  {R : Result → Shared → Prop} {p : Program} {loose : List Str} {mg mb : Str → Option Value} {cn : Str} {cs : Scope} {cd : Value} {st sd : Addr} {TS : Nat → Tok} {d : SD} {n : Nat}

/-- a built-in's name -/
theorem name_B {M : Model} {K : Frag} {x : Str} {pos : Pos} {v : Value} {Q : Value → Shared → Prop} (F : Fr h₀ L s.heap m) (X : K.In h₀) (T : TopRead p loose mg mb h₀)
    (e : nsIn K mainGlobals x = some none) (hv : bootBuiltins x = some v) (hn : x ≠ "__name__") (h : Q v s)
    (hk : cs.kind = .function := by rfl) (hx : (envOf cn cs L a cd).kindOf x = some .globalImplicit := by rfl) (hd : (x == ("__debug__" : Str)) = false := by decide) :
    wpAny M A (eval (.Name x pos) (envOf cn cs L a cd)) Q E s :=
  Name_function_global hk hx (loadGlobal_builtin (T.g.keeps F.keep) (mg_none_of X T.g e) (T.b.keeps F.keep) ((T.builtins x hn).trans hv) h) hd

/-- a call of a built-in by its name, one argument -/
theorem op_b1 {x : Str} {id : String} {e : Expr} {p1 p2 : Pos} {Q : Value → Shared → Prop} (F : Fr h₀ L s.heap m) (X : (Mine.hd.heap_1 w.params).In h₀) (T : TopRead p loose mg mb h₀)
    (hg : nsIn (Mine.hd.heap_1 w.params) mainGlobals x = some none) (hv : bootBuiltins x = some (.builtin id)) (hn : x ≠ "__name__")
    (h : wpAny (model prog w) A (eval e (envOf cn cs L a cd)) (fun v s₁ => wpAny (model prog w) A (call (.builtin id) [v]) Q E s₁) E s)
    (he : starEach [e] (envOf cn cs L a cd) = [(false, eval e (envOf cn cs L a cd))] := by rfl)
    (hk : cs.kind = .function := by rfl) (hx : (envOf cn cs L a cd).kindOf x = some .globalImplicit := by rfl) (hd : (x == ("__debug__" : Str)) = false := by decide) :
    wpAny (model prog w) A (eval (.Call (.Name x p1) [e] [] p2) (envOf cn cs L a cd)) Q E s := by
  refine Call_ ?_
  refine name_B F X T hg hv hn ?_ hk hx hd
  exact callWith_b1 h he

theorem read_in {tx td : Addr} {TT : Nat → Tok} {x : Str} {xt : Tok} {pl size : Int} {u us : Tok} {k : Nat} (hA : Room A 1) (F : Fr h₀ L s.heap m) (D : Ld h₀ L s.heap l) (X : (Mine.hd.heap_1 w.params).In h₀) (T₀ : TopRead p loose mg mb h₀)
    (h1 : (tx, instObj 73 td) ∈ l) (h2 : (td, dictOf (tE w.params TT x xt pl u) k) ∈ l) (hx : x.length ≤ 10000)
    (hR : ∀ y t v h' tk, y = Txt.slice x (some pl) (some (pl + size)) → Fr h₀ L h' m → Ld h₀ L h' (setO td (dictOf (tE w.params TT x xt (pl + y.length) v) k) l) → R (.ok (.ret (.str y t))) { s with heap := h', toks := tk }) :
    codeAny (model prog w) A (.call (.ref 70) ⟨[.ref tx, .int size us], []⟩) R s := by
  refine call_M (binds := [("self", .ref tx), ("size", .int size us)]) hA.lt F D.N X T₀ (f := 70) (by k_is) (by k_is) (BindsTo.of_eq rfl) (locs rfl) (fun g L' h₁ F₁ N₁ X₁ T₁ lt => ?_) (by decide)
  have hsl := Txt.slice_le x (some pl) (some (pl + size))
  refine wpAny_execs_cons (wpAny_Assign_Name (Subscript_ (fld F₁ X₁ N₁ rfl h1 h2 (ct_get _) ct_dict ct_text (tE_text _ _ _ _ _ _) rfl ?_)))
  refine wpAny_Slice (evalPart_some_step (fld F₁ X₁ N₁ rfl h1 h2 (ct_get _) ct_dict ct_place (tE_place _ _ _ _ _ _) rfl ?_))
  refine evalPart_some_step (wpAny_BinOp (fld F₁ X₁ N₁ rfl h1 h2 (ct_get _) ct_dict ct_place (tE_place _ _ _ _ _ _) rfl ?_))
  refine ld F₁ rfl (PyProof.Rows.add_int ?_)
  refine evalPart_none_step ?_
  refine slice_strN_ss (hsz := by rw [sizeLine_eq]; omega) (s := ⟨_, _, _, _, _⟩) F₁ N₁ (fun h₂ t₂ k₂ F₂ N₂ => ?_)
  refine stN F₂ N₂ fun h₃ F₃ N₃ => ?_
  refine wpAny_execs_cons (wpAny_AugAssign_AttributeAny (ld F₃ rfl ?_))
  refine get_own F₃ X₁ (InstAt.of_news N₃ h1 h2) (ct_get _) ct_dict ct_place no_none (tE_place _ _ _ _ _ _) rfl ?_
  refine op_b1 F₃ X₁ T₁ g_len (by boot_fast) (by decide) (ld F₃ rfl (PyProof.Rows.len_str (by omega) ?_))
  refine PyProof.Rows.iadd_int ?_
  refine set_dict F₃ X₁ N₃ (InstAt.of_news N₃ h1 h2) rfl ct_set ct_over ct_tplace ct_dict (by rw [tE_place]; rfl) (tE_set _ _ _ _ _ _ _ _ _ _) (setO_upd D.nd h2) (Nat.le_of_ble_eq_true rfl) fun h₄ F₄ N₄ => ?_
  refine wpAny_execs_cons (wpAny_Return_some (ld F₄ rfl ?_))
  exact leaveK_ F₄ N₄ fun F₅ N₅ => hR _ _ _ _ _ rfl F₅ ⟨N₅, setO_nd D.nd⟩
end
end
end Mine
end
-- part LX
section
open PySem PySem.W PySem.Calls PyProof.Rows
set_option Elab.async false
set_option maxRecDepth 100000
namespace Mine
noncomputable section
/-- the signs that the law writes -/
noncomputable def okC (c : Nat) : Prop := c = 0 ∨ c = 9 ∨ c = 10 ∨ c = 12 ∨ c = 13 ∨ (32 ≤ c ∧ c ≤ 126) ∨ c = 233 ∨ c = 119987 ∨ c = 128512
section
variable {prog : Program} {w : World} {A : Around} {E : Value → Shared → Prop} {s : Shared} {h₀ : Heap} {L a : Addr} {m : Str → Option Value} {l : List (Addr × Obj)}
  {R : Result → Shared → Prop} {p : Program} {loose : List Str} {mg mb : Str → Option Value} {cn : Str} {cs : Scope} {cd : Value}

theorem rng_no {x : Str} {lo hi v : Int} {u : Tok} {k1 k2 : Nat} {p1 p2 p3 p4 : Pos} {Q : Value → Shared → Prop} (F : Fr h₀ L s.heap m) (hv : m x = some (.int v u)) (hn : ¬ (lo ≤ v ∧ v ≤ hi))
    (h : ∀ tk, Q (.bool false) { s with toks := tk })
    (hk : cs.kind = .function := by rfl) (hx : (envOf cn cs L a cd).kindOf x = some .local := by rfl) (hd : (x == ("__debug__" : Str)) = false := by decide) :
    wpAny (model prog w) A (eval (.Compare (.Constant (.int lo) k1 p1) [.LtE, .LtE] [.Name x p2, .Constant (.int hi) k2 p3] p4) (envOf cn cs L a cd)) Q E s := by
  refine Compare_chain (wpAny_Constant_int (chain_link (ld F hv (PyProof.Rows.le_int (wpAny_truthy_bool ?_)) hk hx hd)))
  by_cases h1 : lo ≤ v
  · rw [decide_eq_true h1, if_pos rfl]
    refine chain_last (wpAny_Constant_int (PyProof.Rows.le_int ?_))
    rw [decide_eq_false (fun q => hn ⟨h1, q⟩)]
    exact h _
  · rw [decide_eq_false h1, if_neg Bool.false_ne_true]
    exact h _
theorem or_no {M : Model} {env : Env} {e₁ e₂ : Expr} {rest : List Expr} {pos : Pos} {Q : Value → Shared → Prop}
    (h : wpAny M A (eval e₁ env) (fun v s₁ => v = .bool false ∧ wpAny M A (eval (.BoolOp .Or (e₂ :: rest) pos) env) Q E s₁) E s) :
    wpAny M A (eval (.BoolOp .Or (e₁ :: e₂ :: rest) pos) env) Q E s :=
  BoolOp_or (wpAny_mono h (fun v s₁ q => by
    obtain ⟨rfl, q⟩ := q
    refine wpAny_truthy_bool ?_
    rw [if_neg Bool.false_ne_true]
    exact q) fun _ _ x => x)

theorem invalid_in {c : Nat} {u : Tok} (hc : okC c) (hA : Room A 1) (F : Fr h₀ L s.heap m) (D : Ld h₀ L s.heap l) (X : (Mine.hd.heap_1 w.params).In h₀) (T₀ : TopRead p loose mg mb h₀)
    (hR : ∀ h' tk, Fr h₀ L h' m → Ld h₀ L h' l → R (.ok (.ret (.bool false))) { s with heap := h', toks := tk }) :
    codeAny (model prog w) A (.call (.ref 84) ⟨[.int c u], []⟩) R s := by
  refine call_M (binds := [("codepoint", .int c u)]) hA.lt F D.N X T₀ (f := 84) (by k_is) (by k_is) (BindsTo.of_eq rfl) (locs rfl) (fun g L' h₁ F₁ N₁ X₁ T₁ lt => ?_) (by decide)
  unfold okC at hc
  refine wpAny_execs_cons (wpAny_Return_some ?_)
  refine or_no (rng_no F₁ rfl (by omega) fun tk => ⟨rfl, ?_⟩)
  refine or_no (wpAny_Compare1 (ld F₁ rfl (wpAny_Constant_int (PyProof.Rows.eq_int ⟨congrArg Value.bool (beq_eq_false_iff_ne.mpr (by omega)), ?_⟩))))
  refine or_no (rng_no F₁ rfl (by omega) fun tk => ⟨rfl, ?_⟩)
  refine or_no (rng_no F₁ rfl (by omega) fun tk => ⟨rfl, ?_⟩)
  refine or_no (rng_no F₁ rfl (by omega) fun tk => ⟨rfl, ?_⟩)
  refine or_no (wpAny_Compare1 (wpAny_BinOp (ld F₁ rfl (wpAny_Constant_int (PyProof.Rows.mod_int (by decide) (Tuple_ (wpAny_items_cons (wpAny_Constant_int (wpAny_items_cons (wpAny_Constant_int (wpAny_items_nil ?_)))))))))))
  refine newTuple_N F₁ N₁ (fun h₂ F₂ N₂ => ?_) (by show 2 ≤ sizeLine; decide)
  refine in_tuple_ints (ns := [65534, 65535]) (News.isTup N₂ (.head _)) (.cons _ _ (.cons _ _ .nil)) ⟨congrArg Value.bool ?_, ?_⟩
  · have e : ((c : Int).fmod 65536) = (c : Int) % 65536 := Int.fmod_eq_emod_of_nonneg _ (by decide)
    rw [e]
    simp only [List.any_cons, List.any_nil, Bool.or_false, Bool.or_eq_false_iff, beq_eq_false_iff_ne]
    omega
  have N₃ : News g L' h₂ l := fun q hq => N₂ q (.tail _ hq)
  refine BoolOp_one (rng_no F₂ rfl (by omega) fun tk => ?_)
  exact leaveK_ F₂ N₃ fun F₅ N₅ => hR _ _ F₅ ⟨N₅, D.nd⟩
end
end
end Mine
end
-- part LY
section
open PySem PySem.W PySem.Calls PyProof.Rows
set_option Elab.async false
set_option maxRecDepth 100000
namespace Mine
noncomputable section
section
variable {prog : Program} {w : World} {A : Around} {E : Value → Shared → Prop} {s : Shared} {h₀ : Heap} {L a : Addr} {m : Str → Option Value} {l : List (Addr × Obj)}
  {R : Result → Shared → Prop} {p : Program} {loose : List Str} {mg mb : Str → Option Value} {cn : Str} {cs : Scope} {cd : Value}

theorem wpAny_false {M : Model} {α : Type} {x : Sem α} {Q : α → Shared → Prop} {E E' : Value → Shared → Prop} (h : wpAny M A x Q (fun _ _ => False) s) : wpAny M A x Q E s := wpAny_mono h (fun _ _ q => q) fun _ _ q => q.elim

theorem charerr_in {y : Str} {t : Tok} {st : Addr} (hy : ∀ c ∈ y.cps.toList, okC c) (hA : Room A 2) (F : Fr h₀ L s.heap m) (D : Ld h₀ L s.heap l) (X : (Mine.hd.heap_1 w.params).In h₀) (T₀ : TopRead p loose mg mb h₀)
    (hR : ∀ h' tk, Fr h₀ L h' m → Ld h₀ L h' l → R (.ok (.ret .none)) { s with heap := h', toks := tk }) :
    codeAny (model prog w) A (.call (.ref 148) ⟨[.ref st, .str y t], []⟩) R s := by
  refine call_M (binds := [("self", .ref st), ("data", .str y t)]) hA.lt F D.N X T₀ (f := 148) (by k_is) (by k_is) (BindsTo.of_eq rfl) (locs rfl) (fun g L' h₁ F₁ N₁ X₁ T₁ lt => ?_) (by decide)
  refine wpAny_execs_cons (wpAny_For ?_ ?_)
  rotate_left
  · intro x; rfl
  refine ld F₁ rfl ?_
  refine iter_str hA.handled F₁ (D := ⟨N₁, D.nd⟩) (l := l) fun I oI h' St F₂ D₂ IT => ?_
  refine for_ld (fun i m₁ l₁ => l₁ = l) IT rfl rfl rfl (fun b hb => .inl (List.mem_singleton.mp hb)) F₂ D₂ rfl ?_ ?_
  · rintro i v m₁ l₁ h tk oI hi hP rfl F₃ D₃
    obtain ⟨c, u, hc, rfl⟩ := hP
    have hok := hy c (by
      have := Array.getElem?_eq_some_iff.mp hc
      exact (Array.mem_def.mp (Array.mem_of_getElem? hc)))
    refine wpAny_execs_cons (wpAny_If (isTrue_plain (Call_ ?_)))
    refine name_K F₃ X₁ T₁ g_inv ?_
    refine callWith_k1 (K := Mine.hd.heap_1 w.params) kp_inv ?_
    refine op_b1 F₃ X₁ T₁ g_ord (by boot_fast) (by decide) (ld F₃ (if_pos rfl) (P.ord_of_char ⟨X₁.keeps F₃.keep, wpAny_call ?_⟩))
    refine invalid_in hok hA.deeper F₃ D₃ X₁ T₁ fun h₄ tk₄ F₄ D₄ => ?_
    refine wpAny_truthy_bool ?_
    rw [if_neg Bool.false_ne_true]
    refine wpAny_execs_nil (wpAny_execs_nil ?_)
    exact ⟨h₄, tk₄, _, l₁, rfl, F₄, D₄, rfl⟩
  · rintro m₁ l₁ h tk rfl F₃ D₃
    refine wpAny_execs_nil ?_
    exact leaveK_ F₃ D₃.N fun F₅ N₅ => hR _ _ F₅ ⟨N₅, D.nd⟩
end
end
end Mine
end
-- part LZ
section
open PySem PySem.W PySem.Calls PyProof.Rows
set_option Elab.async false
set_option maxRecDepth 100000
namespace Mine
noncomputable section
theorem noBool_method : typeLookup (.type "method") "__bool__" = pure none := by rw [typeLookup_type, builtinLookup_eq_fast]; kernel_rfl
theorem noLen_method : typeLookup (.type "method") "__len__" = pure none := by rw [typeLookup_type, builtinLookup_eq_fast]; kernel_rfl
section
variable {P : Params}
theorem cs_getf : findIn (Mine.hd.heap_1 P) (.ref 166) "__getattribute__" = some (some (.builtin "object.__getattribute__")) := by k_is
theorem cs_geta : findIn (Mine.hd.heap_1 P) (.ref 166) "__getattr__" = some none := by k_is
theorem fn_ce : fnIn (Mine.hd.heap_1 P) 148 = true := by k_is
end
section
variable {prog : Program} {w : World} {A : Around} {E : Value → Shared → Prop} {s : Shared} {h₀ : Heap} {L a : Addr} {m : Str → Option Value} {l : List (Addr × Obj)}
  {R : Result → Shared → Prop} {p : Program} {loose : List Str} {mg mb : Str → Option Value} {cn : Str} {cs : Scope} {cd : Value} {st sd : Addr} {TS : Nat → Tok} {d : SD} {n : Nat}

theorem truthy_meth {q : Addr} {f self : Value} {Q : Bool → Shared → Prop} (ho : s.heap.get? q = some (methodObj f self)) (h : Q true s) : wpAny (model prog w) A (truthy (.ref q)) Q E s := by
  have hT : s.TypeIs (.ref q) "method" := ⟨_, ho, rfl⟩
  unfold truthy
  refine wpAny_bind (wpAny_callSpecial?_none (name := Str.ofString "__bool__") hT noBool_method ?_)
  refine wpAny_bind (wpAny_specialOf (name := Str.ofString "__len__") hT noLen_method ?_)
  exact wpAny_pure h

theorem ite_t {b : Bool} {P Q : Prop} (h : b = true) (p : P) : if b = true then P else Q := by rw [if_pos h]; exact p
theorem ite_f {b : Bool} {P Q : Prop} (h : b = false) (q : Q) : if b = true then P else Q := by rw [if_neg (by rw [h]; exact Bool.false_ne_true)]; exact q
theorem tE_ne_sE {P : Params} {T T' : Nat → Tok} {x : Str} {xt : Tok} {pl : Int} {u : Tok} {k n : Nat} {d : SD} : dictOf (tE P T x xt pl u) k ≠ dictOf (sE P T' d) n := by
  intro h
  have h2 := congrArg Obj.data h
  simp [dictOf, tE, sE] at h2
/-- what the reading of a chunk changes, up to the text read -/
noncomputable def rcD (d : SD) (x y : Int) (t t' u0 u1 u2 : Tok) : SD := { d with pl := .int x t, pc := .int y t', chunk := Str.ofString "", ct := u0, size := 0, szt := u1, off := 0, ot := u2 }

set_option maxHeartbeats 1000000 in
theorem rc_false {tx td : Addr} {TT : Nat → Tok} {x : Str} {xt : Tok} {pl a b : Int} {u ua ub : Tok} {k : Nat} (hA : Room A 4) (F : Fr h₀ L s.heap m) (D : Ld h₀ L s.heap l) (X : (Mine.hd.heap_1 w.params).In h₀) (T₀ : TopRead p loose mg mb h₀)
    (S : SL w.params l st sd TS d n) (ha : d.pl = .int a ua) (hb : d.pc = .int b ub) (htx : d.tx = .ref tx) (h1 : (tx, instObj 73 td) ∈ l) (h2 : (td, dictOf (tE w.params TT x xt pl u) k) ∈ l) (hx : x.length ≤ 10000) (hbc : d.bc = .none) (hy0 : ∀ y, y = Txt.slice x (some pl) (some (pl + 10240)) → y = Str.empty)
    (hR : ∀ x' y' t t' u0 u1 u2 q tup v h' tk, Fr h₀ L h' m → Ld h₀ L h' (setO td (dictOf (tE w.params TT x xt pl v) k) (setO sd (dictOf (sE w.params TS (rcD d x' y' t t' u0 u1 u2)) n) (l ++ [(q, tup)]))) → R (.ok (.ret (.bool false))) { s with heap := h', toks := tk }) :
    codeAny (model prog w) A (.call (.ref 141) ⟨[.ref st], []⟩) R s := by
  refine call_M hA.lt F D.N X T₀ (f := 141) (by k_is) (by k_is) (binds_K (X.keeps F.keep) rfl (by k_is) rfl rfl rfl) (locs rfl) (fun g L' h₁ F₁ N₁ X₁ T₁ lt => ?_) (by decide)
  have hA' := hA.deeper (env := envOf "HTMLUnicodeInputStream.readChunk" { kind := .function, names := [("self", .local), ("chunkSize", .local), ("data", .local), ("lastv", .local), ("len", .globalImplicit), ("ord", .globalImplicit)], isGenerator := false, isCoroutine := false } L' 141 (.ref 140))
  obtain ⟨ud, hdef⟩ := cs_def (P := w.params)
  refine wpAny_execs_cons (wpAny_If (wpAny_isTrue_Compare1 (ld F₁ rfl (wpAny_Constant_none (PyProof.Rows.is_none_none (wpAny_truthy_bool ?_))))))
  rw [if_pos rfl]
  refine wpAny_execs_cons (wpAny_Assign_Name (Attribute_Name_ (ld F₁ rfl ?_)))
  refine get_cls F₁ X₁ (InstAt.of_news N₁ S.h1 S.h2) (cs_get _) cs_dict hdef (by kernel_rfl) rfl (by decide +kernel) (sE_def _ _ _) ?_
  refine stN F₁ N₁ fun h₂ F₂ N₂ => ?_
  refine wpAny_execs_nil ?_
  refine wpAny_execs_cons (Assign_Tuple ?_)
  refine MethodCall_ (ld F₂ rfl (method_inst F₂ X₁ (InstAt.of_news N₂ S.h1 S.h2) (cs_get _) cs_mpos fn_pos (sE_mpos _ _ _) ?_))
  refine callWith_k1 (K := Mine.hd.heap_1 w.params) kp_pos ?_
  refine s_size F₂ X₁ N₂ rfl S.h1 S.h2 ⟨X₁.keeps F₂.keep, wpAny_call ?_⟩
  refine position_in (hA'.le (by decide)) F₂ ⟨N₂, D.nd⟩ X₁ T₁ S ha hb fun x' y' t t' q h₃ tk₃ F₃ D₃ => ?_
  have S₃ : SL w.params (l ++ [(q, { cls := .type "tuple", data := .seq ([Value.int x' t, .int y' t'] : List Value).toArray })]) st sd TS d n := ⟨List.mem_append_left _ S.h1, List.mem_append_left _ S.h2⟩
  refine unpackN_ F₃ D₃.N (News.isTup D₃.N (List.mem_append_right _ (.head _))) hA'.handled rfl rfl fun h₄ F₄ N₄ => ?_
  refine assignInOrder_cons (kas_attr (ld F₄ rfl ?_))
  refine s_set F₄ X₁ ⟨N₄, D₃.nd⟩ S₃ cs_tpl (by rw [sE_pl]; rfl) (fun k => sE_spl _ _ _ _ _ _) fun h₅ F₅ D₅ S₅ => ?_
  refine assignInOrder_cons (kas_attr (ld F₅ rfl ?_))
  refine s_set F₅ X₁ D₅ S₅ cs_tpc (by rw [sE_pc]; rfl) (fun k => sE_spc _ _ _ _ _ _) fun h₆ F₆ D₆ S₆ => ?_
  refine assignInOrder_nil ?_
  refine wpAny_execs_cons (plainObj_wpAny_Assign_Attribute (wpAny_Constant_str (ld F₆ rfl ?_)))
  refine s_set F₆ X₁ D₆ S₆ cs_tchunk (by rw [sE_chunk]; rfl) (fun k => sE_schunk _ _ _ _ _ _ _) fun h₇ F₇ D₇ S₇ => ?_
  refine wpAny_execs_cons (plainObj_wpAny_Assign_Attribute (wpAny_Constant_int (ld F₇ rfl ?_)))
  refine s_set F₇ X₁ D₇ S₇ cs_tsize (by rw [sE_size]; rfl) (fun k => sE_ssize _ _ _ _ _ _ _) fun h₈ F₈ D₈ S₈ => ?_
  refine wpAny_execs_cons (plainObj_wpAny_Assign_Attribute (wpAny_Constant_int (ld F₈ rfl ?_)))
  refine s_set F₈ X₁ D₈ S₈ cs_toff (by rw [sE_off]; rfl) (fun k => sE_setoff _ _ _ _ _ _ _) fun h₉ F₉ D₉ S₉ => ?_
  simp only [setO_setO] at D₉ S₉
  have m1 : (tx, instObj 73 td) ∈ l ++ [(q, ({ cls := .type "tuple", data := .seq ([Value.int x' t, .int y' t'] : List Value).toArray } : Obj))] := List.mem_append_left _ h1
  have m2 : (td, dictOf (tE w.params TT x xt pl u) k) ∈ l ++ [(q, ({ cls := .type "tuple", data := .seq ([Value.int x' t, .int y' t'] : List Value).toArray } : Obj))] := List.mem_append_left _ h2
  have n1 : tx ≠ sd := nodup_ne D₃.nd m1 S₃.h2 inst_ne_dict
  have n2 : td ≠ sd := nodup_ne D₃.nd m2 S₃.h2 tE_ne_sE
  refine wpAny_execs_cons (wpAny_Assign_Name (MethodCall_ ?_))
  refine fld F₉ X₁ D₉.N rfl S₉.h1 S₉.h2 (cs_get _) cs_dict cs_tx ((sE_tx _ _ _).trans (by rw [htx])) rfl ?_
  refine method_inst F₉ X₁ (InstAt.of_news D₉.N (setO_ne m1 n1) (setO_ne m2 n2)) (ct_get _) ct_read fn_tread (tE_read _ _ _ _ _ _) ?_
  refine callWith_k1 (K := Mine.hd.heap_1 w.params) kp_tread ?_
  refine ld F₉ rfl ⟨X₁.keeps F₉.keep, wpAny_call ?_⟩
  refine read_in (hA'.le (by decide)) F₉ D₉ X₁ T₁ (setO_ne m1 n1) (setO_ne m2 n2) hx fun y ty v h₁₀ tk₁₀ hy F₁₀ D₁₀ => ?_
  refine stN F₁₀ D₁₀.N fun h₁₁ F₁₁ N₁₁ => ?_
  have S₁₁ := SL.mk (setO_ne (a := td) (o' := dictOf (tE w.params TT x xt (pl + y.length) v) k) S₉.h1 (nodup_ne D₉.nd S₉.h1 (setO_ne m2 n2) inst_ne_dict)) (setO_ne S₉.h2 (Ne.symm n2))
  have D₁₁ : Ld g L' h₁₁ _ := ⟨N₁₁, D₁₀.nd⟩
  have hye := hy0 _ hy
  refine wpAny_execs_cons (wpAny_If (isTrue_plain (fld F₁₁ X₁ N₁₁ rfl S₁₁.h1 S₁₁.h2 (cs_get _) cs_dict cs_bc ((sE_bc _ _ _).trans (by show some (some d.bc) = _; rw [hbc])) rfl (truthy_none ?_))))
  rw [if_neg Bool.false_ne_true]
  refine wpAny_execs_cons (wpAny_If (isTrue_not (isTrue_plain (ld F₁₁ rfl (P.truthy_str ?_ ?_)))))
  · rw [hye]; decide
  have e0 : (!((y.length : Int) != 0)) = true := by rw [hye]; rfl
  refine ite_t e0 ?_
  refine wpAny_execs_cons (wpAny_Return_some (wpAny_Constant_bool ?_))
  have hz : pl + (y.length : Int) = pl := by rw [hye]; exact Int.add_zero _
  rw [hz] at D₁₁
  exact leaveK_ F₁₁ D₁₁.N fun F₅ N₅ => hR _ _ _ _ _ _ _ _ _ _ _ _ F₅ ⟨N₅, D₁₁.nd⟩

end
end
end Mine
end
-- part LZ2
section
open PySem PySem.W PySem.Calls PyProof.Rows
set_option Elab.async false
set_option maxRecDepth 100000
namespace Mine
noncomputable section
section
variable {prog : Program} {w : World} {A : Around} {E : Value → Shared → Prop} {s : Shared} {h₀ : Heap} {L a : Addr} {m : Str → Option Value} {l : List (Addr × Obj)}
  {R : Result → Shared → Prop} {p : Program} {loose : List Str} {mg mb : Str → Option Value} {cn : Str} {cs : Scope} {cd : Value} {st sd : Addr} {TS : Nat → Tok} {d : SD} {n : Nat}

theorem rngT_no {x : Str} {lo hi v : Int} {u : Tok} {k1 k2 : Nat} {p1 p2 p3 p4 : Pos} {whole : Sem Value} {Q : Bool → Shared → Prop} (F : Fr h₀ L s.heap m) (hv : m x = some (.int v u)) (hn : ¬ (lo ≤ v ∧ v ≤ hi))
    (h : ∀ tk, s.toks ≤ tk → Q false { s with toks := tk })
    (hk : cs.kind = .function := by rfl) (hx : (envOf cn cs L a cd).kindOf x = some .local := by rfl) (hd : (x == ("__debug__" : Str)) = false := by decide) :
    wpAny (model prog w) A (isTrue (.Compare (.Constant (.int lo) k1 p1) [.LtE, .LtE] [.Name x p2, .Constant (.int hi) k2 p3] p4) (envOf cn cs L a cd) whole) Q E s := by
  refine isTrue_chain (wpAny_Constant_int (test_link (ld F hv (PyProof.Rows.le_int (wpAny_truthy_bool ?_)) hk hx hd)))
  by_cases h1 : lo ≤ v
  · rw [decide_eq_true h1, if_pos rfl]
    refine test_last (wpAny_Constant_int (PyProof.Rows.le_int (wpAny_truthy_bool ?_)))
    rw [decide_eq_false (fun q => hn ⟨h1, q⟩)]
    exact h _ (by first | exact Nat.le_add_right _ _ | exact Nat.le_trans (Nat.le_add_right _ _) (Nat.le_add_right _ _) | exact Nat.le_trans (Nat.le_trans (Nat.le_add_right _ _) (Nat.le_add_right _ _)) (Nat.le_add_right _ _))
  · rw [decide_eq_false h1, if_neg Bool.false_ne_true]
    exact h _ (by first | exact Nat.le_add_right _ _ | exact Nat.le_trans (Nat.le_add_right _ _) (Nat.le_add_right _ _) | exact Nat.le_trans (Nat.le_trans (Nat.le_add_right _ _) (Nat.le_add_right _ _)) (Nat.le_add_right _ _))
theorem replace_to {x y z r : Str} {t u v : Tok} {Q : Value → Shared → Prop} (hr : Txt.replace x y z = r) (hu : u ≠ 0) (hv : v ≠ 0) (huv : u ≠ v) (hyz : (y == z) = false) (hx : x.length ≤ 1048576) (hz : z.length ≤ 14)
    (hq : ∀ t' k, Q (.str r t') { s with toks := k }) : wpAny (model prog w) A (call (.builtin "str.replace") [.str x t, .str y u, .str z v]) Q E s := by
  subst hr
  exact SC.replaceW hu hv huv hyz hx hz hq
theorem normS_len (x : Str) : (normS x).length ≤ x.length := by
  show ((nocr x.cps.toList).toArray).size ≤ x.cps.size
  rw [List.size_toArray, ← Array.length_toList]
  exact List.length_filter_le _ _
theorem toks_pos {M : Model} {α : Type} {t : Sem α} {Q : α → Shared → Prop} (h1 : 1 ≤ s.toks) (h : wpAny M A t (fun a s' => 1 ≤ s'.toks → Q a s') E s) : wpAny M A t Q E s :=
  wpAny_mono (wpAny_toks_of h1 h) (fun _ _ q => q.2 q.1) fun _ _ q => q.2
theorem crlf_lit : Str.ofString "\x0d\n" = ⟨#[13, 10]⟩ := by kernel_rfl
theorem cr_lit : Str.ofString "\x0d" = ⟨#[13]⟩ := by kernel_rfl
theorem lf_lit : Str.ofString "\n" = ⟨#[10]⟩ := by kernel_rfl

set_option maxHeartbeats 1000000 in
theorem rc_true {tx td : Addr} {TT : Nat → Tok} {x : Str} {xt : Tok} {pl a b : Int} {u ua ub : Tok} {k : Nat} (hA : Room A 4) (F : Fr h₀ L s.heap m) (D : Ld h₀ L s.heap l) (X : (Mine.hd.heap_1 w.params).In h₀) (T₀ : TopRead p loose mg mb h₀)
    (S : SL w.params l st sd TS d n) (ha : d.pl = .int a ua) (hb : d.pc = .int b ub) (htx : d.tx = .ref tx) (h1 : (tx, instObj 73 td) ∈ l) (h2 : (td, dictOf (tE w.params TT x xt pl u) k) ∈ l) (hx : x.length ≤ 10000) {mu : Addr} (hbc : d.bc = .none) (hrce : d.rce = .ref mu) (hmu : (mu, methodObj (.ref 148) (.ref st)) ∈ l) (hpl : pl = 0) (hx2 : 2 ≤ x.length) (hok : ∀ c ∈ x.cps.toList, okC c) (hlast : ∃ c, x.cps[x.length - 1]? = some c ∧ c ≠ 13) (hcr : Crlf x.cps.toList)
    (hR : ∀ x' y' t t' u0 u1 u2 q tup v h' tk, Fr h₀ L h' m → Ld h₀ L h' (setO sd (dictOf (sE w.params TS { rcD d x' y' t t' u0 u1 u2 with chunk := normS x, size := (normS x).length }) n) (setO td (dictOf (tE w.params TT x xt x.length v) k) (l ++ [(q, tup)]))) → R (.ok (.ret (.bool true))) { s with heap := h', toks := tk }) :
    codeAny (model prog w) A (.call (.ref 141) ⟨[.ref st], []⟩) R s := by
  refine call_M hA.lt F D.N X T₀ (f := 141) (by k_is) (by k_is) (binds_K (X.keeps F.keep) rfl (by k_is) rfl rfl rfl) (locs rfl) (fun g L' h₁ F₁ N₁ X₁ T₁ lt => ?_) (by decide)
  have hA' := hA.deeper (env := envOf "HTMLUnicodeInputStream.readChunk" { kind := .function, names := [("self", .local), ("chunkSize", .local), ("data", .local), ("lastv", .local), ("len", .globalImplicit), ("ord", .globalImplicit)], isGenerator := false, isCoroutine := false } L' 141 (.ref 140))
  obtain ⟨ud, hdef⟩ := cs_def (P := w.params)
  refine wpAny_execs_cons (wpAny_If (wpAny_isTrue_Compare1 (ld F₁ rfl (wpAny_Constant_none (PyProof.Rows.is_none_none (wpAny_truthy_bool ?_))))))
  rw [if_pos rfl]
  refine wpAny_execs_cons (wpAny_Assign_Name (Attribute_Name_ (ld F₁ rfl ?_)))
  refine get_cls F₁ X₁ (InstAt.of_news N₁ S.h1 S.h2) (cs_get _) cs_dict hdef (by kernel_rfl) rfl (by decide +kernel) (sE_def _ _ _) ?_
  refine stN F₁ N₁ fun h₂ F₂ N₂ => ?_
  refine wpAny_execs_nil ?_
  refine wpAny_execs_cons (Assign_Tuple ?_)
  refine MethodCall_ (ld F₂ rfl (method_inst F₂ X₁ (InstAt.of_news N₂ S.h1 S.h2) (cs_get _) cs_mpos fn_pos (sE_mpos _ _ _) ?_))
  refine callWith_k1 (K := Mine.hd.heap_1 w.params) kp_pos ?_
  refine s_size F₂ X₁ N₂ rfl S.h1 S.h2 ⟨X₁.keeps F₂.keep, wpAny_call ?_⟩
  refine position_in (hA'.le (by decide)) F₂ ⟨N₂, D.nd⟩ X₁ T₁ S ha hb fun x' y' t t' q h₃ tk₃ F₃ D₃ => ?_
  have S₃ : SL w.params (l ++ [(q, { cls := .type "tuple", data := .seq ([Value.int x' t, .int y' t'] : List Value).toArray })]) st sd TS d n := ⟨List.mem_append_left _ S.h1, List.mem_append_left _ S.h2⟩
  refine unpackN_ F₃ D₃.N (News.isTup D₃.N (List.mem_append_right _ (.head _))) hA'.handled rfl rfl fun h₄ F₄ N₄ => ?_
  refine assignInOrder_cons (kas_attr (ld F₄ rfl ?_))
  refine s_set F₄ X₁ ⟨N₄, D₃.nd⟩ S₃ cs_tpl (by rw [sE_pl]; rfl) (fun k => sE_spl _ _ _ _ _ _) fun h₅ F₅ D₅ S₅ => ?_
  refine assignInOrder_cons (kas_attr (ld F₅ rfl ?_))
  refine s_set F₅ X₁ D₅ S₅ cs_tpc (by rw [sE_pc]; rfl) (fun k => sE_spc _ _ _ _ _ _) fun h₆ F₆ D₆ S₆ => ?_
  refine assignInOrder_nil ?_
  refine wpAny_execs_cons (plainObj_wpAny_Assign_Attribute (wpAny_Constant_str (ld F₆ rfl ?_)))
  refine s_set F₆ X₁ D₆ S₆ cs_tchunk (by rw [sE_chunk]; rfl) (fun k => sE_schunk _ _ _ _ _ _ _) fun h₇ F₇ D₇ S₇ => ?_
  refine wpAny_execs_cons (plainObj_wpAny_Assign_Attribute (wpAny_Constant_int (ld F₇ rfl ?_)))
  refine s_set F₇ X₁ D₇ S₇ cs_tsize (by rw [sE_size]; rfl) (fun k => sE_ssize _ _ _ _ _ _ _) fun h₈ F₈ D₈ S₈ => ?_
  refine wpAny_execs_cons (plainObj_wpAny_Assign_Attribute (wpAny_Constant_int (ld F₈ rfl ?_)))
  refine s_set F₈ X₁ D₈ S₈ cs_toff (by rw [sE_off]; rfl) (fun k => sE_setoff _ _ _ _ _ _ _) fun h₉ F₉ D₉ S₉ => ?_
  simp only [setO_setO] at D₉ S₉
  have m1 : (tx, instObj 73 td) ∈ l ++ [(q, ({ cls := .type "tuple", data := .seq ([Value.int x' t, .int y' t'] : List Value).toArray } : Obj))] := List.mem_append_left _ h1
  have m2 : (td, dictOf (tE w.params TT x xt pl u) k) ∈ l ++ [(q, ({ cls := .type "tuple", data := .seq ([Value.int x' t, .int y' t'] : List Value).toArray } : Obj))] := List.mem_append_left _ h2
  have n1 : tx ≠ sd := nodup_ne D₃.nd m1 S₃.h2 inst_ne_dict
  have n2 : td ≠ sd := nodup_ne D₃.nd m2 S₃.h2 tE_ne_sE
  refine wpAny_execs_cons (wpAny_Assign_Name (MethodCall_ ?_))
  refine fld F₉ X₁ D₉.N rfl S₉.h1 S₉.h2 (cs_get _) cs_dict cs_tx ((sE_tx _ _ _).trans (by rw [htx])) rfl ?_
  refine method_inst F₉ X₁ (InstAt.of_news D₉.N (setO_ne m1 n1) (setO_ne m2 n2)) (ct_get _) ct_read fn_tread (tE_read _ _ _ _ _ _) ?_
  refine callWith_k1 (K := Mine.hd.heap_1 w.params) kp_tread ?_
  refine ld F₉ rfl ⟨X₁.keeps F₉.keep, wpAny_call ?_⟩
  refine read_in (hA'.le (by decide)) F₉ D₉ X₁ T₁ (setO_ne m1 n1) (setO_ne m2 n2) hx fun y ty v h₁₀ tk₁₀ hy F₁₀ D₁₀ => ?_
  refine stN F₁₀ D₁₀.N fun h₁₁ F₁₁ N₁₁ => ?_
  have S₁₁ := SL.mk (setO_ne (a := td) (o' := dictOf (tE w.params TT x xt (pl + y.length) v) k) S₉.h1 (nodup_ne D₉.nd S₉.h1 (setO_ne m2 n2) inst_ne_dict)) (setO_ne S₉.h2 (Ne.symm n2))
  have D₁₁ : Ld g L' h₁₁ _ := ⟨N₁₁, D₁₀.nd⟩
  have hye : y = x := by rw [hy, hpl]; exact slice_all (by omega)
  subst hpl
  refine wpAny_execs_cons (wpAny_If (isTrue_plain (fld F₁₁ X₁ N₁₁ rfl S₁₁.h1 S₁₁.h2 (cs_get _) cs_dict cs_bc ((sE_bc _ _ _).trans (by show some (some d.bc) = _; rw [hbc])) rfl (truthy_none ?_))))
  rw [if_neg Bool.false_ne_true]
  refine wpAny_execs_cons (wpAny_If (isTrue_not (isTrue_plain (ld F₁₁ rfl (P.truthy_str ?_ ?_)))))
  · rw [hye]; omega
  have e0 : (!((y.length : Int) != 0)) = false := by
    rw [hye]
    have : ((x.length : Int) != 0) = true := bne_iff_ne.mpr (by omega)
    rw [this]; rfl
  refine ite_f e0 ?_
  refine wpAny_execs_nil (wpAny_execs_nil ?_)
  have hl2 : 1 < (y.length : Int) := by rw [hye]; omega
  refine wpAny_execs_cons (wpAny_If (wpAny_isTrue_Compare1 (op_b1 F₁₁ X₁ T₁ g_len (by boot_fast) (by decide) (ld F₁₁ rfl (PyProof.Rows.len_str (by rw [hye]; omega) (wpAny_Constant_int (PyProof.Rows.gt_int (wpAny_truthy_bool ?_))))))))
  refine ite_t (decide_eq_true hl2) ?_
  obtain ⟨cl, hcl, hcl13⟩ := hlast
  have hclm : cl ∈ x.cps.toList := Array.mem_def.mp (Array.mem_of_getElem? hcl)
  have hclo := hok _ hclm
  refine wpAny_execs_cons (wpAny_Assign_Name (op_b1 F₁₁ X₁ T₁ g_ord (by boot_fast) (by decide) (Subscript_ (ld F₁₁ rfl (wpAny_UnaryOp (wpAny_Constant_int (PyProof.Rows.neg_int ?_)))))))
  refine subscriptTail_builtin (typeIs_str _ _ _) PySem.F.slot_str_getitem.lookup (P.getItem_str (c := cl) (by decide) ?_ ?_)
  · rw [hye]
    have e : seqIndex? (-1) x.length = some (x.length - 1) := by
      have q2 : (decide (0 ≤ (-1 : Int) + (x.length : Int)) && decide ((-1 : Int) + (x.length : Int) < (x.length : Int))) = true := by
        rw [decide_eq_true (by omega), decide_eq_true (by omega)]; rfl
      show (if (decide (0 ≤ (-1 : Int) + (x.length : Int)) && decide ((-1 : Int) + (x.length : Int) < (x.length : Int))) = true then some ((-1 : Int) + (x.length : Int)).toNat else none) = _
      rw [if_pos q2]
      congr 1; omega
    rw [e]; exact hcl
  refine P.ord_of_char ?_
  refine stN F₁₁ N₁₁ fun h₁₂ F₁₂ N₁₂ => ?_
  unfold okC at hclo
  refine wpAny_execs_cons (wpAny_If (isTrue_or (wpAny_isTrue_Compare1 (ld F₁₂ rfl (wpAny_Constant_int (PyProof.Rows.eq_int (wpAny_truthy_bool ?_)))))))
  refine ite_f (beq_eq_false_iff_ne.mpr (by omega)) ?_
  refine isTrue_or (rngT_no F₁₂ rfl (by omega) fun tk htk => ?_)
  have htk : 1 ≤ tk := Nat.le_trans (Nat.le_add_left 1 _) htk
  rw [if_neg Bool.false_ne_true]
  refine isTrue_or_nil ?_
  rw [if_neg Bool.false_ne_true]
  refine wpAny_execs_nil (wpAny_execs_nil ?_)
  have m3 : (mu, methodObj (.ref 148) (.ref st)) ∈ l ++ [(q, ({ cls := .type "tuple", data := .seq ([Value.int x' t, .int y' t'] : List Value).toArray } : Obj))] := List.mem_append_left _ hmu
  have n5 : mu ≠ sd := nodup_ne D₃.nd m3 S₃.h2 meth_ne_dict
  have n6 : mu ≠ td := nodup_ne D₃.nd m3 m2 meth_ne_dict
  have hl3 : getL "reportCharacterErrors" (sE w.params TS d) = some (some (.ref mu)) := (sE_rce _ _ _).trans (by rw [hrce])
  refine wpAny_execs_cons (toks_pos htk (wpAny_If (isTrue_plain (fld F₁₂ X₁ N₁₂ rfl S₁₁.h1 S₁₁.h2 (cs_get _) cs_dict cs_rce hl3 rfl ?_))))
  refine truthy_meth (N₁₂ _ (setO_ne (setO_ne m3 n5) n6)).1 ?_
  rw [if_pos rfl]
  refine wpAny_execs_cons (wpAny_Expr (MethodCall_ (ld F₁₂ rfl ?_)))
  refine method_usual (X₁.keeps F₁₂.keep) (InstAt.of_news N₁₂ S₁₁.h1 S₁₁.h2) cs_getf cs_geta cs_rce rfl ?_
  refine get_own F₁₂ X₁ (InstAt.of_news N₁₂ S₁₁.h1 S₁₁.h2) (cs_get _) cs_dict cs_rce no_none hl3 rfl ?_
  refine callWith_M X₁ N₁₂ (setO_ne (setO_ne m3 n5) n6) fn_ce (wpAny_items_cons (ld F₁₂ rfl (wpAny_items_nil ⟨methP N₁₂ (setO_ne (setO_ne m3 n5) n6) (X₁.keeps F₁₂.keep), ?_⟩)))
  refine call_meth N₁₂ (setO_ne (setO_ne m3 n5) n6) ?_
  refine charerr_in (by rw [hye]; exact hok) (hA'.le (by decide)) F₁₂ ⟨N₁₂, D₁₁.nd⟩ X₁ T₁ fun h₁₃ tk₁₃ F₁₃ D₁₃ => ?_
  refine wpAny_execs_nil fun htk => ?_
  dsimp only
  have htk : 1 ≤ tk₁₃ := htk
  have hfit : ¬ ((normS x).length : Int) ≥ 2 ^ 63 := Int.not_le.mpr (Int.lt_of_le_of_lt (Int.ofNat_le.mpr (Nat.le_trans (normS_len x) hx)) (by decide))
  have hnl := Nat.le_trans (normS_len x) (Nat.le_trans hx (by decide : 10000 ≤ 1048576))
  have hyl : y.length ≤ 1048576 := by rw [hye]; exact Nat.le_trans hx (by decide)
  refine wpAny_execs_cons (toks_pos htk (wpAny_Assign_Name (MethodCall_ (ld F₁₃ rfl (GM.replace ?_)))))
  refine callWith_bs (wpAny_items_cons (wpAny_Constant_str (wpAny_items_cons (wpAny_Constant_str (wpAny_items_nil ?_)))))
  have hne : tk₁₃ ≠ 0 := Nat.ne_of_gt htk
  have hrep : Txt.replace y (Str.ofString "\x0d\n") (Str.ofString "\n") = normS x := by rw [hye, crlf_lit, lf_lit]; exact replace_crlf hcr
  refine replace_to (r := normS x) hrep hne (Nat.succ_ne_zero _) (Nat.ne_of_lt (Nat.lt_succ_self _)) (by kernel_rfl) hyl (Nat.le_of_ble_eq_true (by kernel_rfl)) fun tr kr => ?_
  refine stN F₁₃ D₁₃.N fun h₁₄ F₁₄ N₁₄ htk => ?_
  dsimp only at htk
  refine wpAny_execs_cons (wpAny_Assign_Name (MethodCall_ (ld F₁₄ rfl (GM.replace ?_))))
  refine callWith_bs (wpAny_items_cons (wpAny_Constant_str (wpAny_items_cons (wpAny_Constant_str (wpAny_items_nil ?_)))))
  refine replace_to (r := normS x) (by rw [cr_lit]; exact replace_cr (normS_nocr x) _) (Nat.ne_of_gt htk) (Nat.succ_ne_zero _) (Nat.ne_of_lt (Nat.lt_succ_self _)) (by kernel_rfl) hnl (Nat.le_of_ble_eq_true (by kernel_rfl)) fun tr2 kr2 => ?_
  refine stN F₁₄ N₁₄ fun h₁₅ F₁₅ N₁₅ => ?_
  refine wpAny_execs_cons (plainObj_wpAny_Assign_Attribute (ld F₁₅ rfl (ld F₁₅ rfl ?_)))
  refine s_set F₁₅ X₁ ⟨N₁₅, D₁₃.nd⟩ S₁₁ cs_tchunk (by rw [sE_chunk]; rfl) (fun k => sE_schunk _ _ _ _ _ _ _) fun h₁₆ F₁₆ D₁₆ S₁₆ => ?_
  refine wpAny_execs_cons (plainObj_wpAny_Assign_Attribute (op_b1 F₁₆ X₁ T₁ g_len (by boot_fast) (by decide) (ld F₁₆ rfl (PyProof.Rows.len_str hfit (ld F₁₆ rfl ?_)))))
  refine s_set F₁₆ X₁ D₁₆ S₁₆ cs_tsize (by rw [sE_size]; rfl) (fun k => sE_ssize _ _ _ _ _ _ _) fun h₁₇ F₁₇ D₁₇ S₁₇ => ?_
  refine wpAny_execs_cons (wpAny_Return_some (wpAny_Constant_bool ?_))
  have n7 : sd ≠ td := Ne.symm n2
  have hpl2 : (0 : Int) + (y.length : Int) = (x.length : Int) := by rw [hye]; exact Int.zero_add _
  simp only [setO_setO] at D₁₇
  rw [setO_comm (a := td) (b := sd) n2, setO_setO, hpl2] at D₁₇
  exact leaveK_ F₁₇ D₁₇.N fun F₅ N₅ => hR _ _ _ _ _ _ _ _ _ _ _ _ F₅ ⟨N₅, D₁₇.nd⟩
end
end
end Mine
end
-- part MA
section
open PySem PySem.W PySem.Calls PyProof.Rows
set_option Elab.async false
set_option maxRecDepth 100000
namespace Mine
noncomputable section
/-- a stream with its text in a ledger -/
structure Bx where
  (st sd tx td mu : Addr) (TS TT : Nat → Tok) (x : Str) (xt : Tok)
structure SB (P : Params) (l : List (Addr × Obj)) (b : Bx) (d : SD) (n : Nat) (pl : Int) (u : Tok) (k : Nat) : Prop where
  S : SL P l b.st b.sd b.TS d n
  h1 : (b.tx, instObj 73 b.td) ∈ l
  h2 : (b.td, dictOf (tE P b.TT b.x b.xt pl u) k) ∈ l
  hmu : (b.mu, methodObj (.ref 148) (.ref b.st)) ∈ l
  tx : d.tx = .ref b.tx
  rce : d.rce = .ref b.mu
  bc : d.bc = .none
  pls : ∃ a ua, d.pl = .int a ua
  pcs : ∃ a ua, d.pc = .int a ua
/-- the text: what the law writes -/
structure XOk (x : Str) : Prop where
  len : x.length ≤ 9000
  two : 2 ≤ x.length
  ok : ∀ c ∈ x.cps.toList, okC c
  last : ∃ c, x.cps[x.length - 1]? = some c ∧ c ≠ 13
  cr : Crlf x.cps.toList
section
variable {P : Params} {l : List (Addr × Obj)} {b : Bx} {d : SD} {n : Nat} {pl : Int} {u : Tok} {k : Nat}
/-- a change of the stream's own dict -/
theorem SB.set (B : SB P l b d n pl u k) (nd : (l.map (·.1)).Nodup) {d' : SD} {n' : Nat} (e1 : d'.tx = d.tx) (e2 : d'.rce = d.rce) (e3 : d'.bc = d.bc) (e4 : ∃ a ua, d'.pl = .int a ua) (e5 : ∃ a ua, d'.pc = .int a ua) :
    SB P (setO b.sd (dictOf (sE P b.TS d') n') l) b d' n' pl u k :=
  ⟨B.S.set nd _ _, setO_ne B.h1 (nodup_ne nd B.h1 B.S.h2 inst_ne_dict), setO_ne B.h2 (nodup_ne nd B.h2 B.S.h2 tE_ne_sE), setO_ne B.hmu (nodup_ne nd B.hmu B.S.h2 meth_ne_dict), e1.trans B.tx, e2.trans B.rce, e3.trans B.bc, e4, e5⟩
theorem SB.set' {o : Obj} (B : SB P (setO b.sd o l) b d n pl u k) (nd : (l.map (·.1)).Nodup) {d' : SD} {n' : Nat} (e1 : d'.tx = d.tx) (e2 : d'.rce = d.rce) (e3 : d'.bc = d.bc) (e4 : ∃ a ua, d'.pl = .int a ua) (e5 : ∃ a ua, d'.pc = .int a ua) :
    SB P (setO b.sd (dictOf (sE P b.TS d') n') l) b d' n' pl u k := by
  have := B.set (setO_nd nd) (n' := n') e1 e2 e3 e4 e5
  rwa [setO_setO] at this
theorem SB.setT (B : SB P l b d n pl u k) (nd : (l.map (·.1)).Nodup) (pl' : Int) (u' : Tok) (k' : Nat) : SB P (setO b.td (dictOf (tE P b.TT b.x b.xt pl' u') k') l) b d n pl' u' k' :=
  ⟨⟨setO_ne B.S.h1 (nodup_ne nd B.S.h1 B.h2 inst_ne_dict), setO_ne B.S.h2 (Ne.symm (nodup_ne nd B.h2 B.S.h2 tE_ne_sE))⟩, setO_ne B.h1 (nodup_ne nd B.h1 B.h2 inst_ne_dict), setO_self B.h2, setO_ne B.hmu (nodup_ne nd B.hmu B.h2 meth_ne_dict), B.tx, B.rce, B.bc, B.pls, B.pcs⟩
/-- another object, changed -/
theorem SB.other {a : Addr} {o o' : Obj} (B : SB P l b d n pl u k) (nd : (l.map (·.1)).Nodup) (h : (a, o) ∈ l) (i : o ≠ instObj 166 b.sd) (i' : o ≠ instObj 73 b.td) (i2 : ∀ d n, o ≠ dictOf (sE P b.TS d) n) (i3 : ∀ pl u k, o ≠ dictOf (tE P b.TT b.x b.xt pl u) k) (i4 : o ≠ methodObj (.ref 148) (.ref b.st)) :
    SB P (setO a o' l) b d n pl u k :=
  ⟨⟨setO_ne B.S.h1 (nodup_ne nd B.S.h1 h (Ne.symm i)), setO_ne B.S.h2 (nodup_ne nd B.S.h2 h (Ne.symm (i2 _ _)))⟩, setO_ne B.h1 (nodup_ne nd B.h1 h (Ne.symm i')), setO_ne B.h2 (nodup_ne nd B.h2 h (Ne.symm (i3 _ _ _))), setO_ne B.hmu (nodup_ne nd B.hmu h (Ne.symm i4)), B.tx, B.rce, B.bc, B.pls, B.pcs⟩
theorem SB.mono {l' : List (Addr × Obj)} (B : SB P l b d n pl u k) (h : ∀ q ∈ l, q ∈ l') : SB P l' b d n pl u k :=
  ⟨⟨h _ B.S.h1, h _ B.S.h2⟩, h _ B.h1, h _ B.h2, h _ B.hmu, B.tx, B.rce, B.bc, B.pls, B.pcs⟩
end
section
variable {prog : Program} {w : World} {A : Around} {E : Value → Shared → Prop} {s : Shared} {h₀ : Heap} {L a : Addr} {m : Str → Option Value} {l : List (Addr × Obj)}
  {R : Result → Shared → Prop} {p : Program} {loose : List Str} {mg mb : Str → Option Value} {cn : Str} {cs : Scope} {cd : Value} {b : Bx} {d : SD} {n : Nat} {pl : Int} {u : Tok} {k : Nat}

set_option maxHeartbeats 1000000 in
/-- the first sign: the text is read -/
theorem char_first {c : Nat} {r : List Nat} (hA : Room A 5) (F : Fr h₀ L s.heap m) (D : Ld h₀ L s.heap l) (X : (Mine.hd.heap_1 w.params).In h₀) (T₀ : TopRead p loose mg mb h₀) (hx : XOk b.x)
    (B : SB w.params l b d n 0 u k) (h0 : d.off = 0) (h1 : d.size = 0) (hc : (normS b.x).cps.toList = c :: r)
    (hR : ∀ d' v q tup t h' tk, d'.chunk = normS b.x → d'.size = ((normS b.x).length : Int) → d'.off = 1 → Fr h₀ L h' m →
      Ld h₀ L h' (setO b.sd (dictOf (sE w.params b.TS d') n) (setO b.td (dictOf (tE w.params b.TT b.x b.xt b.x.length v) k) (l ++ [(q, tup)]))) →
      SB w.params (setO b.sd (dictOf (sE w.params b.TS d') n) (setO b.td (dictOf (tE w.params b.TT b.x b.xt b.x.length v) k) (l ++ [(q, tup)]))) b d' n b.x.length v k → R (.ok (.ret (.str (one c) t))) { s with heap := h', toks := tk }) :
    codeAny (model prog w) A (.call (.ref 133) ⟨[.ref b.st], []⟩) R s := by
  refine call_M (binds := [("self", .ref b.st)]) hA.lt F D.N X T₀ (f := 133) (by k_is) (by k_is) (BindsTo.of_eq rfl) (locs rfl) (fun g L' h₁ F₁ N₁ X₁ T₁ lt => ?_) (by decide)
  have hA' := hA.deeper (env := envOf "HTMLUnicodeInputStream.char" { kind := .function, names := [("self", .local), ("chunkOffset", .local), ("char", .local), ("EOF", .globalImplicit)], isGenerator := false, isCoroutine := false } L' 133 (.ref 132))
  refine wpAny_execs_cons (wpAny_If (wpAny_isTrue_Compare1 (s_off F₁ X₁ N₁ rfl B.S.h1 B.S.h2 (s_size F₁ X₁ N₁ rfl B.S.h1 B.S.h2 (P.ge_int (wpAny_truthy_bool ?_))))))
  refine ite_t (decide_eq_true (by rw [h0, h1]; exact Int.le_refl _)) ?_
  obtain ⟨a1, ua1, hpl⟩ := B.pls
  obtain ⟨a2, ua2, hpc⟩ := B.pcs
  refine wpAny_execs_cons (wpAny_If (isTrue_not (isTrue_plain (MethodCall_ (ld F₁ rfl ?_)))))
  refine method_inst F₁ X₁ (InstAt.of_news N₁ B.S.h1 B.S.h2) (cs_get _) cs_mread fn_rc (sE_mread _ _ _) ?_
  refine callWith_K0 (X₁.keeps F₁.keep) kp_rc (wpAny_call ?_)
  refine rc_true (hA'.le (by decide)) F₁ ⟨N₁, D.nd⟩ X₁ T₁ B.S hpl hpc B.tx B.h1 B.h2 (Nat.le_trans hx.len (by decide)) B.bc B.rce B.hmu rfl hx.two hx.ok hx.last hx.cr fun x' y' t t' u0 u1 u2 q tup v h₂ tk₂ F₂ D₂ => ?_
  refine wpAny_truthy_bool ?_
  refine ite_f rfl ?_
  refine wpAny_execs_nil (wpAny_execs_nil ?_)
  have ndq : ((l ++ [(q, tup)]).map (·.1)).Nodup := by
    have := D₂.nd
    rw [setO_fst, setO_fst] at this
    exact this
  have B₂ := ((B.mono (l' := l ++ [(q, tup)]) fun q hq => List.mem_append_left _ hq).setT ndq b.x.length v k).set (setO_nd ndq) (d' := { rcD d x' y' t t' u0 u1 u2 with chunk := normS b.x, size := ((normS b.x).length : Int) }) (n' := n) rfl rfl rfl ⟨_, _, rfl⟩ ⟨_, _, rfl⟩
  have hc0 : (normS b.x).cps[0]? = some c := by
    rw [← Array.getElem?_toList, hc]; rfl
  have hlen : (normS b.x).length ≤ 9000 := Nat.le_trans (normS_len _) hx.len
  refine wpAny_execs_cons (wpAny_Assign_Name (s_off F₂ X₁ D₂.N rfl B₂.S.h1 B₂.S.h2 (stN F₂ D₂.N fun h₃ F₃ N₃ => ?_)))
  refine wpAny_execs_cons (wpAny_Assign_Name (Subscript_ (s_chunk F₃ X₁ N₃ rfl B₂.S.h1 B₂.S.h2 (ld F₃ rfl ?_))))
  refine str_item (c := c) (Int.le_refl _) (by show (0 : Int) < 2 ^ 62; decide) hc0 ?_
  refine stN F₃ N₃ fun h₄ F₄ N₄ => ?_
  refine wpAny_execs_cons (plainObj_wpAny_Assign_Attribute (wpAny_BinOp (ld F₄ rfl (wpAny_Constant_int (PyProof.Rows.add_int (ld F₄ rfl ?_))))))
  refine s_set F₄ X₁ ⟨N₄, D₂.nd⟩ B₂.S cs_toff (by rw [sE_off]; rfl) (fun k => sE_setoff _ _ _ _ _ _ _) fun h₅ F₅ D₅ S₅ => ?_
  refine wpAny_execs_cons (wpAny_Return_some (ld F₅ rfl ?_))
  simp only [setO_setO] at D₅
  refine leaveK_ F₅ D₅.N fun F₆ N₆ => hR _ _ _ _ _ _ _ rfl rfl rfl F₆ ⟨N₆, D₅.nd⟩ ?_
  exact B₂.set' (setO_nd ndq) rfl rfl rfl ⟨_, _, rfl⟩ ⟨_, _, rfl⟩
end
end
end Mine
end
-- part MB
section
open PySem PySem.W PySem.Calls PyProof.Rows
set_option Elab.async false
set_option maxRecDepth 100000
namespace Mine
noncomputable section
section
variable {prog : Program} {w : World} {A : Around} {E : Value → Shared → Prop} {s : Shared} {h₀ : Heap} {L a : Addr} {m : Str → Option Value} {l : List (Addr × Obj)}
  {R : Result → Shared → Prop} {p : Program} {loose : List Str} {mg mb : Str → Option Value} {cn : Str} {cs : Scope} {cd : Value} {b : Bx} {d : SD} {n : Nat} {pl : Int} {u : Tok} {k : Nat}

/-- one more sign of the text that is read -/
theorem char_next {c : Nat} (hA : Room A 1) (F : Fr h₀ L s.heap m) (D : Ld h₀ L s.heap l) (X : (Mine.hd.heap_1 w.params).In h₀) (T₀ : TopRead p loose mg mb h₀)
    (B : SB w.params l b d n pl u k) (hlt : d.off < d.size) (h0 : 0 ≤ d.off) (hbig : d.size < 2 ^ 60) (hc : d.chunk.cps[d.off.toNat]? = some c)
    (hR : ∀ v t h' tk, Fr h₀ L h' m → Ld h₀ L h' (setO b.sd (dictOf (sE w.params b.TS { d with off := d.off + 1, ot := v }) n) l) →
      SB w.params (setO b.sd (dictOf (sE w.params b.TS { d with off := d.off + 1, ot := v }) n) l) b { d with off := d.off + 1, ot := v } n pl u k → R (.ok (.ret (.str (one c) t))) { s with heap := h', toks := tk }) :
    codeAny (model prog w) A (.call (.ref 133) ⟨[.ref b.st], []⟩) R s :=
  char_in (news' := fun v => setO b.sd (dictOf (sE w.params b.TS { d with off := d.off + 1, ot := v }) n) l) hA F D.N X T₀ B.S.h1 B.S.h2 (fun v => setO_upd D.nd B.S.h2) hlt h0 hbig hc
    fun v t h' tk F' N' => hR v t h' tk F' ⟨N', setO_nd D.nd⟩ (B.set D.nd rfl rfl rfl B.pls B.pcs)

set_option maxHeartbeats 1000000 in
/-- at the text's end -/
theorem char_eof (hA : Room A 5) (F : Fr h₀ L s.heap m) (D : Ld h₀ L s.heap l) (X : (Mine.hd.heap_1 w.params).In h₀) (T₀ : TopRead p loose mg mb h₀) (hx : b.x.length ≤ 10000)
    (B : SB w.params l b d n b.x.length u k) (h0 : d.size ≤ d.off)
    (hR : ∀ d' v q tup h' tk, d'.chunk = Str.ofString "" → d'.size = 0 → d'.off = 0 → Fr h₀ L h' m →
      Ld h₀ L h' (setO b.td (dictOf (tE w.params b.TT b.x b.xt b.x.length v) k) (setO b.sd (dictOf (sE w.params b.TS d') n) (l ++ [(q, tup)]))) →
      SB w.params (setO b.td (dictOf (tE w.params b.TT b.x b.xt b.x.length v) k) (setO b.sd (dictOf (sE w.params b.TS d') n) (l ++ [(q, tup)]))) b d' n b.x.length v k → R (.ok (.ret .none)) { s with heap := h', toks := tk }) :
    codeAny (model prog w) A (.call (.ref 133) ⟨[.ref b.st], []⟩) R s := by
  refine call_M (binds := [("self", .ref b.st)]) hA.lt F D.N X T₀ (f := 133) (by k_is) (by k_is) (BindsTo.of_eq rfl) (locs rfl) (fun g L' h₁ F₁ N₁ X₁ T₁ lt => ?_) (by decide)
  have hA' := hA.deeper (env := envOf "HTMLUnicodeInputStream.char" { kind := .function, names := [("self", .local), ("chunkOffset", .local), ("char", .local), ("EOF", .globalImplicit)], isGenerator := false, isCoroutine := false } L' 133 (.ref 132))
  refine wpAny_execs_cons (wpAny_If (wpAny_isTrue_Compare1 (s_off F₁ X₁ N₁ rfl B.S.h1 B.S.h2 (s_size F₁ X₁ N₁ rfl B.S.h1 B.S.h2 (P.ge_int (wpAny_truthy_bool ?_))))))
  refine ite_t (decide_eq_true h0) ?_
  obtain ⟨a1, ua1, hpl⟩ := B.pls
  obtain ⟨a2, ua2, hpc⟩ := B.pcs
  refine wpAny_execs_cons (wpAny_If (isTrue_not (isTrue_plain (MethodCall_ (ld F₁ rfl ?_)))))
  refine method_inst F₁ X₁ (InstAt.of_news N₁ B.S.h1 B.S.h2) (cs_get _) cs_mread fn_rc (sE_mread _ _ _) ?_
  refine callWith_K0 (X₁.keeps F₁.keep) kp_rc (wpAny_call ?_)
  refine rc_false (hA'.le (by decide)) F₁ ⟨N₁, D.nd⟩ X₁ T₁ B.S hpl hpc B.tx B.h1 B.h2 hx B.bc (fun y hy => by rw [hy]; exact slice_end (Int.le_refl _) (by omega)) fun x' y' t t' u0 u1 u2 q tup v h₂ tk₂ F₂ D₂ => ?_
  refine wpAny_truthy_bool ?_
  refine ite_t rfl ?_
  have ndq : ((l ++ [(q, tup)]).map (·.1)).Nodup := by
    have := D₂.nd
    rw [setO_fst, setO_fst] at this
    exact this
  refine wpAny_execs_cons (wpAny_Return_some (name_K F₂ X₁ T₁ g_eof ?_))
  refine leaveK_ F₂ D₂.N fun F₆ N₆ => hR _ _ _ _ _ _ rfl rfl rfl F₆ ⟨N₆, D₂.nd⟩ ?_
  exact ((B.mono (l' := l ++ [(q, tup)]) fun q hq => List.mem_append_left _ hq).set ndq (d' := rcD d x' y' t t' u0 u1 u2) (n' := n) rfl rfl rfl ⟨_, _, rfl⟩ ⟨_, _, rfl⟩).setT (setO_nd ndq) _ v k
end
end
end Mine
end
-- part MC
section
open PySem PySem.W PySem.Calls PyProof.Rows
set_option Elab.async false
set_option maxRecDepth 100000
namespace Mine
noncomputable section

theorem perm_pick {l : List (Addr × Obj)} : ∀ {e : List (Addr × Obj)}, (e.map (·.1)).Nodup → (∀ p ∈ e, p ∈ l) → ∃ rest, l.Perm (e ++ rest)
  | [], _, _ => ⟨l, List.Perm.refl _⟩
  | p :: e, nd, h => by
    have n1 := List.nodup_cons.mp nd
    obtain ⟨a, b, rfl⟩ := List.append_of_mem (h p (.head _))
    have hs : ∀ q ∈ e, q ∈ a ++ b := fun q hq => by
      have ne : q ≠ p := fun e' => n1.1 (e' ▸ List.mem_map_of_mem hq)
      rcases List.mem_append.mp (h q (.tail _ hq)) with x | x
      · exact List.mem_append_left _ x
      · rcases List.mem_cons.mp x with x | x
        · exact absurd x ne
        · exact List.mem_append_right _ x
    obtain ⟨rest, hr⟩ := perm_pick (l := a ++ b) n1.2 hs
    exact ⟨rest, List.perm_middle.trans (hr.cons _)⟩

/-- a reader in a ledger -/
structure RB (P : Params) (l : List (Addr × Obj)) (r dr st q : Addr) (T : Nat → Tok) (lf stv cur : Value) (n : Nat) : Prop where
  h1 : (r, instObj 762 dr) ∈ l
  h2 : (dr, dictOf (rE P T st lf stv cur q) n) ∈ l

section
variable {prog : Program} {w : World} {A : Around} {E : Value → Shared → Prop} {s : Shared} {h₀ : Heap} {L a : Addr} {m : Str → Option Value} {l : List (Addr × Obj)}
  {R : Result → Shared → Prop} {p : Program} {loose : List Str} {mg mb : Str → Option Value} {cn : Str} {cs : Scope} {cd : Value} {r dr st sd q : Addr} {T TS : Nat → Tok} {lf stv cur : Value} {n ns : Nat} {d : SD}

/-- self.stream.char() -/
theorem e_char {p1 p2 p3 p4 : Pos} {Q : Value → Shared → Prop} (F : Fr h₀ L s.heap m) (X : (Mine.hd.heap_1 w.params).In h₀) (D : Ld h₀ L s.heap l) (B : RB w.params l r dr st q T lf stv cur n) (S : SL w.params l st sd TS d ns) (hx : m "self" = some (.ref r))
    (h : codeAny (model prog w) A (.call (.ref 133) ⟨[.ref st], []⟩) (fun r s' => match r with | .ok (.ret v) => Q v s' | .ok _ => False | .error e => E e s') { s with toks := s.toks + 1 })
    (hk : cs.kind = .function := by rfl) (hy : (envOf cn cs L a cd).kindOf "self" = some .local := by rfl) :
    wpAny (model prog w) A (eval (.Call (.Attribute (.Attribute (.Name "self" p1) "stream" p2) "char" p3) [] [] p4) (envOf cn cs L a cd)) Q E s := by
  refine MCallA (fun pl pq => fld F X D.N hx B.h1 B.h2 (cr_get _) cr_dict cr_stream (rE_stream _ _ _ _ _ _) rfl ?_ hk hy)
  refine method_inst F X (InstAt.of_news D.N S.h1 S.h2) (cs_get _) cs_char fn_char (sE_char _ _) ?_
  exact callWith_K0 (env := envOf cn cs L a cd) (X.keeps F.keep) kp_char (wpAny_call h)

theorem newList_ld {M : Model} {vs : List Value} {Q : Value → Shared → Prop} (F : Fr h₀ L s.heap m) (D : Ld h₀ L s.heap l)
    (h : ∀ b h', Fr h₀ L h' m → Ld h₀ L h' (l ++ [(b, listOf vs.toArray 0)]) → Q (.ref b) { s with heap := h' }) (hsz : vs.length ≤ sizeLine := by size_fits) :
    wpAny M A (newList vs) Q E s :=
  wpAny_newObj_type (h _ _ (F.push _) (D.snoc F _)) (by show vs.toArray.size ≤ sizeLine; rw [List.size_toArray]; exact hsz)

/-- x[-1] of a list -/
theorem e_last {x : Str} {b : Addr} {items : Array Value} {k kk : Nat} {v : Value} {p1 p2 p3 p4 : Pos} {Q : Value → Shared → Prop} (F : Fr h₀ L s.heap m) (D : Ld h₀ L s.heap l) (hx : m x = some (.ref b)) (hb : (b, listOf items k) ∈ l) (hv : items[items.size - 1]? = some v)
    (h : Q v { s with toks := s.toks + 1 + 1 })
    (hk : cs.kind = .function := by rfl) (hy : (envOf cn cs L a cd).kindOf x = some .local := by rfl) (hd : (x == ("__debug__" : Str)) = false := by decide) :
    wpAny (model prog w) A (eval (.Subscript (.Name x p1) (.UnaryOp .USub (.Constant (.int 1) kk p2) p3) p4) (envOf cn cs L a cd)) Q E s := by
  have hl : s.heap.IsList b items := News.isList D.N hb
  have hsz : 0 < items.size := by
    have := (Array.getElem?_eq_some_iff.mp hv).1
    omega
  refine Subscript_ (ld F hx (wpAny_UnaryOp (wpAny_Constant_int (PyProof.Rows.neg_int ?_))) hk hy hd)
  refine tail_any (ops := [.ref b, .int (-1) _]) (hl.typeIs) slot_list_getitem.lookup (wpAny_getItem_list_neg (k := -1) hl (by decide) (by omega) (by decide) ?_ h) rfl
  have e : ((-1 : Int) + (items.size : Int)).toNat = items.size - 1 := by omega
  rw [e]; exact hv

theorem MCallN {M : Model} {x name : Str} {xp apos pos : Pos} {args : List Expr} {Q : Value → Shared → Prop} {env : Env}
    (h : ∀ pl, wpAny M A (eval (.Name x xp) env) (fun ov s₁ => wpAny M A (getMethod ov name pl) (fun fx s₂ => wpAny M A (callWith pos fx.1 fx.2 (backTo pos (starEach args env)) []) Q E s₂) E s₁) E s)
    (hl : methodCallForm (args.length + 0) (backTo pos (starEach args env)) [] = true := by rfl) (hp : (apos.endLine == pos.line) = true := by rfl) :
    wpAny M A (eval (.Call (.Attribute (.Name x xp) name apos) args [] pos) env) Q E s := by
  show wpAny M A (eval (.Name x xp) env >>= fun ov => standAt apos.atName >>= fun _ => methodCall _ _ _ _ _ _ _ _ _) Q E s
  have hp' : methodCallPos true (.Name x xp) env apos pos = pure pos := by
    unfold methodCallPos
    rw [hp]; rfl
  refine wpAny_bind (wpAny_mono (h (importBound (.Name x xp) env >>= fun r => pure (r.getD true))) (fun ov s₁ h₁ => wpAny_bind (wpAny_standAt ?_)) fun _ _ x => x)
  unfold methodCall
  have e : methodCallForm (args.length + ([] : List Keyword).length) (backTo pos (starEach args env)) (backToKw pos (keywordEach [] env)) = true := hl
  rw [e]
  refine wpAny_bind (wpAny_holding (wpAny_mono h₁ (fun fx s₂ h₂ => ?_) fun _ _ x => x))
  dsimp only
  rw [hp']
  exact wpAny_bind (wpAny_pure h₂)

/-- x.append(e) for a list that a local holds -/
theorem op_app {x : Str} {b : Addr} {items : Array Value} {k : Nat} {e : Expr} {p1 p2 p3 p4 : Pos} {Q : Flow → Shared → Prop} (F : Fr h₀ L s.heap m) (D : Ld h₀ L s.heap l) (hx : m x = some (.ref b)) (hb : (b, listOf items k) ∈ l)
    (hv : wpAny (model prog w) A (eval e (envOf cn cs L a cd)) (fun v s₁ => ∃ l₁ m₁ items₁ k₁, Fr h₀ L s₁.heap m₁ ∧ Ld h₀ L s₁.heap l₁ ∧ (b, listOf items₁ k₁) ∈ l₁ ∧ items₁.size ≤ 10000 ∧
      ∀ h', Fr h₀ L h' m₁ → Ld h₀ L h' (setO b (listOf (items₁.push v) (k₁ + 1)) l₁) → Q .next { s₁ with heap := h' }) E s)
    (hs : starEach [e] (envOf cn cs L a cd) = [(false, eval e (envOf cn cs L a cd))] := by rfl) (hp : (p2.endLine == p3.line) = true := by rfl)
    (hk : cs.kind = .function := by rfl) (hy : (envOf cn cs L a cd).kindOf x = some .local := by rfl) (hd : (x == ("__debug__" : Str)) = false := by decide) :
    wpAny (model prog w) A (exec (.Expr (.Call (.Attribute (.Name x p1) "append" p2) [e] [] p3) p4) (envOf cn cs L a cd)) Q E s := by
  refine wpAny_Expr (MCallN (fun pl => ld F hx ?_ hk hy hd) (by rw [hs]; rfl) hp) (by unfold interactive; rw [show (envOf cn cs L a cd).scope.kind = .function from hk]; rfl)
  refine getMethod_append_N D.N hb ?_
  have e0 : backTo p3 (starEach [e] (envOf cn cs L a cd)) = [(false, eval e (envOf cn cs L a cd))] := by rw [hs]; rfl
  show wpAny (model prog w) A (callWith p3 (.builtin "list.append") [.ref b] (backTo p3 (starEach [e] (envOf cn cs L a cd))) []) _ E _
  rw [e0]
  refine callWith_builtin rfl (evalArgs_plain (spliced_cons (wpAny_mono hv (fun v s₁ q => spliced_nil ?_) fun _ _ x => x)))
  obtain ⟨l₁, m₁, items₁, k₁, F₁, D₁, hb₁, hsz, q⟩ := q
  exact append_K F₁ D₁.N (setO_upd D₁.nd hb₁) (fun h'' F'' N'' => q _ F'' ⟨N'', setO_nd D₁.nd⟩) (by rw [sizeLine_eq]; omega)
end
end
end Mine
end
-- part NB
section
open PySem PySem.W PySem.Calls PyProof.Rows
set_option Elab.async false
set_option maxRecDepth 100000
namespace Mine
noncomputable section
/-- what the tape holds -/
noncomputable def TapeV (vs : Array Value) : Prop := ∀ v ∈ vs.toList, ∃ n t, v = Value.int n t ∧ 0 ≤ n ∧ n < 1000003
noncomputable def Tp (l : List (Addr × Obj)) (tp : Addr) : Prop := ∃ vs k, (tp, PySem.W.listOf vs k) ∈ l ∧ TapeV vs ∧ vs.size ≤ 100
theorem Tp.mono {l l' : List (Addr × Obj)} {tp : Addr} (h : Tp l tp) (k : ∀ z ∈ l, z.1 = tp → z ∈ l') : Tp l' tp :=
  let ⟨vs, n, a, b, c⟩ := h; ⟨vs, n, k _ a rfl, b, c⟩
section
variable {prog : Program} {w : World} {A : Around} {E : Value → Shared → Prop} {s : Shared} {h₀ : Heap} {L a : Addr} {m : Str → Option Value} {l : List (Addr × Obj)}
  {R : Result → Shared → Prop} {p : Program} {loose : List Str} {mg mb : Str → Option Value} {cn : Str} {cs : Scope} {cd : Value}

theorem take_in {tp : Addr} (hA : Room A 1) (F : Fr h₀ L s.heap m) (D : Ld h₀ L s.heap l) (X : (Mine.hd.heap_1 w.params).In h₀) (T₀ : TopRead p loose mg mb h₀) (ht : Tp l tp)
    (hR : ∀ n t h' tk l', 0 ≤ n → n < 1000003 → Fr h₀ L h' m → Ld h₀ L h' l' → Tp l' tp → (∀ z ∈ l, z.1 ≠ tp → z ∈ l') → R (.ok (.ret (.int n t))) { s with heap := h', toks := tk }) :
    codeAny (model prog w) A (.call (.ref 796) ⟨[.ref tp], []⟩) R s := by
  refine call_M (binds := [("tape", .ref tp)]) hA.lt F D.N X T₀ (f := 796) (by k_is) (by k_is) (BindsTo.of_eq rfl) (locs rfl) (fun g L' h₁ F₁ N₁ X₁ T₁ lt => ?_) (by decide)
  obtain ⟨vs, k, hm, hv, hsz⟩ := ht
  have D₁ : Ld g L' h₁ l := ⟨N₁, D.nd⟩
  refine wpAny_execs_cons (wpAny_Return_some (wpAny_IfExp (isTrue_plain (ld F₁ rfl (wpAny_truthy_list (News.isList N₁ hm) (by omega) ?_)))))
  cases hvs : vs.toList with
  | nil =>
    have e : vs.isEmpty = true := by simpa using hvs
    rw [e]
    refine ite_f rfl ?_
    refine wpAny_Constant_int ?_
    exact leaveK_ F₁ N₁ fun F₅ N₅ => hR _ _ _ _ l (by decide) (by decide) F₅ ⟨N₅, D.nd⟩ ⟨vs, k, hm, hv, hsz⟩ fun z hz _ => hz
  | cons y q =>
    have e : vs.isEmpty = false := by
      cases hq : vs.isEmpty
      · rfl
      · have : vs.toList = [] := by simpa using hq
        rw [this] at hvs; cases hvs
    rw [e]
    refine ite_t rfl ?_
    obtain ⟨n, t, hy, h0, h1⟩ := hv y (by rw [hvs]; exact .head _)
    have hl : q.length + 1 = vs.size := by rw [← Array.length_toList, hvs]; rfl
    refine MCallN (fun pl => ld F₁ rfl ?_) rfl rfl
    refine kl_method N₁ hm PySem.F.slot_list_pop PySem.F.type_list_pop ?_
    refine callWith_b1 (wpAny_Constant_int ?_)
    refine kl_popAt (n := k) (k := 0) (p := []) (q := q) (y := y) F₁ N₁ rfl (by rw [seqIndex_ok (by decide) (by omega)]; rfl) (by rw [hvs]; rfl) (setO_upd D.nd hm) (by rw [hvs, sizeLine_eq]; simp only [List.length_cons]; omega) fun h₂ F₂ N₂ => ?_
    rw [hy]
    refine leaveK_ F₂ N₂ fun F₅ N₅ => hR _ _ _ _ _ h0 h1 F₅ ⟨N₅, setO_nd D.nd⟩ ⟨_, _, setO_self hm, fun v hv' => hv v (by rw [hvs]; exact List.mem_cons_of_mem _ (by simpa using hv')), ?_⟩ fun z hz hn => setO_ne hz hn
    simp
    omega
end
end
end Mine
end
-- part NC
section
open PySem PySem.W PySem.Calls PyProof.Rows
set_option Elab.async false
set_option maxRecDepth 100000
namespace Mine
noncomputable section
/-- a word in letters of any size -/
inductive Szd : List Nat → List Nat → Prop
  | nil : Szd [] []
  | cons {a b : Nat} {u v : List Nat} (h : b = a ∨ b + 32 = a) (r : Szd u v) : Szd (a :: u) (b :: v)
theorem Szd.snoc {a b : Nat} (h : b = a ∨ b + 32 = a) : ∀ {u v : List Nat}, Szd u v → Szd (u ++ [a]) (v ++ [b])
  | _, _, .nil => .cons h .nil
  | _, _, .cons h' r => .cons h' (r.snoc h)
theorem Szd.len : ∀ {u v : List Nat}, Szd u v → v.length = u.length
  | _, _, .nil => rfl
  | _, _, .cons _ r => by simp [r.len]
theorem g_chr {P : Params} : nsIn (Mine.hd.heap_1 P) mainGlobals "chr" = some none := by k_is
section
variable {prog : Program} {w : World} {A : Around} {E : Value → Shared → Prop} {s : Shared} {h₀ : Heap} {L a : Addr} {m : Str → Option Value} {l : List (Addr × Obj)}
  {R : Result → Shared → Prop} {p : Program} {loose : List Str} {mg mb : Str → Option Value} {cn : Str} {cs : Scope} {cd : Value}

set_option maxHeartbeats 1000000 in
theorem sized_in {y : Str} {t u : Tok} {n : Int} (hy : ∀ c ∈ y.cps.toList, 97 ≤ c ∧ c ≤ 122) (hyl : y.length ≤ 10) (h0 : 0 ≤ n) (h1 : n < 1000003) (hA : Room A 2) (F : Fr h₀ L s.heap m) (D : Ld h₀ L s.heap l) (X : (Mine.hd.heap_1 w.params).In h₀) (T₀ : TopRead p loose mg mb h₀)
    (hR : ∀ x t h' tk, Szd y.cps.toList x.cps.toList → Fr h₀ L h' m → Ld h₀ L h' l → R (.ok (.ret (.str x t))) { s with heap := h', toks := tk }) :
    codeAny (model prog w) A (.call (.ref 803) ⟨[.str y t, .int n u], []⟩) R s := by
  refine call_M (binds := [("word", .str y t), ("n", .int n u)]) hA.lt F D.N X T₀ (f := 803) (by k_is) (by k_is) (BindsTo.of_eq rfl) (locs rfl) (fun g L' h₁ F₁ N₁ X₁ T₁ lt => ?_) (by decide)
  refine wpAny_execs_cons (wpAny_Assign_Name (wpAny_Constant_str (stN F₁ N₁ fun h₂ F₂ N₂ => ?_)))
  refine wpAny_execs_cons (wpAny_For ?_ ?_)
  rotate_left
  · intro x; rfl
  refine ld F₂ rfl ?_
  refine iter_str hA.handled F₂ (D := ⟨N₂, D.nd⟩) (l := l) fun I oI h' St F₃ D₃ IT => ?_
  have hlen : y.cps.toList.length = y.length := by simp [Str.length]
  refine for_ld (fun i m₁ l₁ => l₁ = l ∧ ∃ x tx n' tn, m₁ "text" = some (.str x tx) ∧ m₁ "n" = some (.int n' tn) ∧ 0 ≤ n' ∧ n' < 1000003 ∧ Szd (y.cps.toList.take i) x.cps.toList) IT rfl rfl rfl (fun b hb => .inl (List.mem_singleton.mp hb)) F₃ D₃
    ⟨rfl, _, _, n, u, if_pos rfl, rfl, h0, h1, .nil⟩ ?_ ?_
  · rintro i v m₁ l₁ h tk oI hi hP ⟨rfl, x, tx, n', tn, e1, e2, b0, b1, hs⟩ F₃ D₃
    obtain ⟨c, uc, hc, rfl⟩ := hP
    have hc' : y.cps.toList[i]? = some c := by simpa using hc
    have hb := hy c (List.mem_of_getElem? hc')
    have hxl : x.length ≤ 10 := by
      have h2 := hs.len
      have h3 : x.cps.toList.length = x.length := by simp [Str.length]
      rw [List.length_take] at h2
      omega
    have en : (fun y => if y = "c" then some (Value.str ⟨#[c]⟩ uc) else m₁ y) "n" = some (.int n' tn) := (if_neg (by decide)).trans e2
    have et : (fun y => if y = "c" then some (Value.str ⟨#[c]⟩ uc) else m₁ y) "text" = some (.str x tx) := (if_neg (by decide)).trans e1
    refine wpAny_execs_cons (wpAny_AugAssign_Name (wpAny_loadName_local rfl rfl F₃.ns et (wpAny_mono (Q := fun v s' => ∃ b tb tk, v = .str (one b) tb ∧ (b = c ∨ b + 32 = c) ∧ s' = { s with heap := h, toks := tk }) ?_ (fun v s' hv => ?_) (fun _ _ e => e))))
    · refine wpAny_IfExp (isTrue_plain (wpAny_BinOp (ld F₃ en (wpAny_Constant_int (PyProof.Rows.mod_int (by decide) (P.truthy_int ?_))))))
      refine bool_if (fun _ => ?_) (fun _ => ?_)
      · exact ld F₃ (if_pos rfl) ⟨c, uc, _, rfl, .inl rfl, rfl⟩
      · refine op_b1 F₃ X₁ T₁ g_chr (by boot_fast) (by decide) ?_
        refine wpAny_BinOp (op_b1 F₃ X₁ T₁ g_ord (by boot_fast) (by decide) (ld F₃ (if_pos rfl) (P.ord_of_char ?_)))
        refine wpAny_Constant_int (PyProof.Rows.sub_int ?_)
        refine P.chr_of_int ?_ ?_
        · simp only [Bool.or_eq_false_iff, decide_eq_false_iff_not]; omega
        have e3 : (⟨#[((c : Int) - 32).toNat]⟩ : Str) = one (c - 32) := by
          have e2 : ((c : Int) - 32).toNat = c - 32 := by omega
          rw [e2]; rfl
        exact ⟨c - 32, _, _, congrArg (fun z => Value.str z _) e3, .inr (by omega), rfl⟩
    · obtain ⟨b, tb, tk', rfl, hbc, rfl⟩ := hv
      dsimp only
      refine SB.iadd (fun t' k => ?_) (by rw [sizeLine_eq]; show x.length + 1 ≤ _; omega)
      refine stN F₃ D₃.N fun h₄ F₄ N₄ => ?_
      refine wpAny_execs_cons (wpAny_Assign_Name (wpAny_BinOp (ld F₄ ((if_neg (by decide)).trans en) (wpAny_Constant_int (PyProof.Rows.floordiv_int (by decide) ?_ (.inl (PyProof.noPylong_small (by omega))))))))
      refine stN F₄ N₄ fun h₅ F₅ N₅ => ?_
      refine wpAny_execs_nil ?_
      have ed : n'.fdiv 2 = n' / 2 := Int.fdiv_eq_ediv_of_nonneg _ (by decide)
      refine ⟨h₅, _, _, l₁, rfl, F₅, ⟨N₅, D₃.nd⟩, rfl, x ++ one b, _, n'.fdiv 2, _, (if_neg (by decide)).trans (if_pos rfl), if_pos rfl, by omega, by omega, ?_⟩
      rw [List.take_add_one, hc', Str.cps_append, Array.toList_append]
      exact hs.snoc hbc
  · rintro m₁ l₁ h tk ⟨rfl, x, tx, n', tn, e1, e2, b0, b1, hs⟩ F₃ D₃
    refine wpAny_execs_cons (wpAny_Return_some (ld F₃ e1 ?_))
    rw [List.take_of_length_le (by rw [hlen]; exact Nat.le_refl _)] at hs
    exact leaveK_ F₃ D₃.N fun F₅ N₅ => hR _ _ _ _ hs F₅ ⟨N₅, D.nd⟩
end
end
end Mine
end
-- part MD
section
open PySem PySem.W PySem.Calls PyProof.Rows
set_option Elab.async false
set_option maxRecDepth 100000
namespace Mine
noncomputable section
theorem setO_snoc {a I : Addr} {o x : Obj} {l : List (Addr × Obj)} (h : I ≠ a) : setO a o (l ++ [(I, x)]) = setO a o l ++ [(I, x)] := by
  unfold setO
  rw [List.map_append]
  simp [h]
theorem mem_setO {a : Addr} {o : Obj} {p : Addr × Obj} {l : List (Addr × Obj)} (h : p ∈ l) (n : p.1 ≠ a) : p ∈ setO a o l := List.mem_map.mpr ⟨p, h, if_neg n⟩
theorem tup_ne_dict {y z : Str} {t u : Tok} {es : List DictEntry} {n : Nat} : tup2 y z t u ≠ dictOf es n := by
  intro h
  have := congrArg Obj.data h
  cases this
theorem tup_ne_list {y z : Str} {t u : Tok} {its : Array Value} {n : Nat} : tup2 y z t u ≠ listOf its n := by
  intro h
  have := congrArg Obj.cls h
  simp [tup2, PySem.W.listOf] at this
theorem list_ne_dict {its : Array Value} {k : Nat} {es : List DictEntry} {n : Nat} : listOf its k ≠ dictOf es n := by
  intro h
  have := congrArg Obj.data h
  cases this
theorem list_ne_inst {its : Array Value} {k : Nat} {C dx : Addr} : listOf its k ≠ instObj C dx := by
  intro h
  have := congrArg Obj.data h
  cases this
theorem list_ne_meth {its : Array Value} {k : Nat} {f x : Value} : listOf its k ≠ methodObj f x := by
  intro h
  have := congrArg Obj.data h
  cases this
section
variable {prog : Program} {w : World} {A : Around} {E : Value → Shared → Prop} {s : Shared} {h₀ : Heap} {L a : Addr} {m : Str → Option Value} {l : List (Addr × Obj)}
  {R : Result → Shared → Prop} {p : Program} {loose : List Str} {mg mb : Str → Option Value} {cn : Str} {cs : Scope} {cd : Value} {b : Bx} {d : SD} {n : Nat} {pl : Int} {u : Tok} {k : Nat} {r dr q : Addr} {T : Nat → Tok} {lf stv cur : Value} {nr : Nat}

theorem rE_ne_sE {P : Params} {T T' : Nat → Tok} {st q : Addr} {lf stv cur : Value} {n n' : Nat} {d : SD} : dictOf (rE P T st lf stv cur q) n ≠ dictOf (sE P T' d) n' := by
  intro h
  have h2 := congrArg Obj.data h
  simp [dictOf, rE, sE] at h2
theorem nd_left {l l' : List (Addr × Obj)} (h : ((l ++ l').map (·.1)).Nodup) : (l.map (·.1)).Nodup := by
  rw [List.map_append, List.nodup_append] at h
  exact h.1
/-- what stands while the word is read -/
structure MkSt (P : Params) (b : Bx) (n : Nat) (pl : Int) (u : Tok) (k : Nat) (lb : List (Addr × Obj)) (cs : Addr) (i : Nat) (l₁ : List (Addr × Obj)) (d' : SD) (items : Array Value) (k' : Nat) : Prop where
  B : SB P l₁ b d' n pl u k
  hcs : (cs, listOf items k') ∈ l₁
  sz : items.size ≤ 10 + i
  chunk : d'.chunk = normS b.x
  size : d'.size = ((normS b.x).length : Int)
  off : d'.off = (i : Int) + 1
  keep : ∀ p ∈ lb, p.1 ≠ b.sd → p.1 ≠ cs → p ∈ l₁

theorem mk_loop {I : Addr} {oI : Obj} {Tu : Addr} {oT : Obj} {St : Nat → Heap → Prop} {csA : Addr} {c0 : Nat} {chs rr : List Nat} {its : Array Value} {k0 : Nat} {items : Array Value} {R : Result → Shared → Prop} {lb : List (Addr × Obj)} {p1 p2 p3 p4 p5 p6 p7 p8 p9 p10 p11 p12 p13 p14 p15 p16 p17 p18 p19 px : Pos} {kk kk2 : Nat}
    (hA : Room A 1) (X : (Mine.hd.heap_1 w.params).In h₀) (T₀ : TopRead p loose mg mb h₀) (hx : XOk b.x)
    (F : Fr h₀ L s.heap m) (D : Ld h₀ L s.heap (lb ++ [(I, oI)])) (IT : LoopIt prog w A I [I, Tu] items.size (fun i v => items[i]? = some v) St s.heap)
    (M₀ : MkSt w.params b n pl u k lb csA 0 lb d its k0) (Rb : RB w.params lb r dr b.st q T lf stv cur nr)
    (hT : (Tu, oT) ∈ lb) (hT1 : Tu ≠ b.sd) (hT2 : Tu ≠ csA) (hs : m "self" = some (.ref r)) (hcs : m "charStack" = some (.ref csA)) (hmt : m "matched" = some (.bool true))
    (hch : (normS b.x).cps.toList = c0 :: (chs ++ rr)) (hlen : items.size = chs.length)
    (hit : ∀ (i : Nat) (v : Value), items[i]? = some v → ∃ b y y' t u ch, v = Value.ref b ∧ (b, tup2 y y' t u) ∈ lb ∧ chs[i]? = some ch ∧ (y == one ch || y' == one ch) = true)
    (done : ∀ h' tk m' l' d' its' k', MkSt w.params b n pl u k lb csA chs.length l' d' its' k' → Fr h₀ L h' m' → Ld h₀ L h' l' → (m' "self" = some (.ref r)) → (m' "charStack" = some (.ref csA)) → (m' "matched" = some (.bool true)) → R (.ok .next) { s with heap := h', toks := tk })
    (hk : cs.kind = .function := by rfl) (hy : (envOf cn cs L a cd).kindOf "self" = some .local := by rfl) (hz1 : (envOf cn cs L a cd).kindOf "charStack" = some .local := by rfl) (hz2 : (envOf cn cs L a cd).kindOf "expected" = some .local := by rfl) (hp : (p6.endLine == p7.line) = true := by rfl) :
    codeAny (model prog w) A (.forLoop (.Name "expected" px) (.ref I) [.Expr (.Call (.Attribute (.Name "charStack" p5) "append" p6) [.Call (.Attribute (.Attribute (.Name "self" p1) "stream" p2) "char" p3) [] [] p4] [] p7) p8,
      .If (.Compare (.Subscript (.Name "charStack" p9) (.UnaryOp .USub (.Constant (.int 1) kk p10) p11) p12) [.NotIn] [.Name "expected" p13] p14) [.Assign [.Name "matched" p17] (.Constant (.bool false) kk2 p18) p19, .Break p15] [] p16] [] (envOf cn cs L a cd)) R s := by
  have ndb := nd_left D.nd
  have r1 : r ≠ b.sd := nodup_ne ndb Rb.h1 M₀.B.S.h2 inst_ne_dict
  have r2 : r ≠ csA := nodup_ne ndb Rb.h1 M₀.hcs (Ne.symm list_ne_inst)
  have r3 : dr ≠ b.sd := nodup_ne ndb Rb.h2 M₀.B.S.h2 rE_ne_sE
  have r4 : dr ≠ csA := nodup_ne ndb Rb.h2 M₀.hcs (Ne.symm list_ne_dict)
  refine for_ld (fun i m₁ l₁ => m₁ "self" = some (.ref r) ∧ m₁ "charStack" = some (.ref csA) ∧ m₁ "matched" = some (.bool true) ∧ ∃ d' its' k', MkSt w.params b n pl u k lb csA i l₁ d' its' k') IT hz2 (by rw [show (envOf cn cs L a cd).scope.kind = .function from hk]; rfl) rfl ?_ F D ⟨hs, hcs, hmt, d, its, k0, M₀⟩ ?_ ?_
  · intro b' hb
    rcases List.mem_cons.mp hb with e | e
    · exact .inl e
    · rw [List.mem_singleton.mp e]
      exact .inr (.inr ⟨oT, fun i m l h => by obtain ⟨_, _, _, _, _, _, M⟩ := h; exact M.keep _ hT hT1 hT2⟩)
  · rintro i v m₁ l₁ h tk oI hi hP ⟨hs₁, hcs₁, hmt₁, d₁, its₁, k₁, M₁⟩ F₁ D₁
    obtain ⟨pb, y, y', tp, up, ch, rfl, hpb, hch', hin⟩ := hit i v hP
    have nd₁ := nd_left D₁.nd
    have hI1 : I ≠ b.sd := by
      intro e
      have nd := D₁.nd
      rw [List.map_append, List.nodup_append] at nd
      exact nd.2.2 b.sd (List.mem_map_of_mem M₁.B.S.h2) I (by simp) e.symm
    have hI2 : I ≠ csA := by
      intro e
      have nd := D₁.nd
      rw [List.map_append, List.nodup_append] at nd
      exact nd.2.2 csA (List.mem_map_of_mem M₁.hcs) I (by simp) e.symm
    have Rb₁ : RB w.params (l₁ ++ [(I, oI)]) r dr b.st q T lf stv cur nr := ⟨List.mem_append_left _ (M₁.keep _ Rb.h1 r1 r2), List.mem_append_left _ (M₁.keep _ Rb.h2 r3 r4)⟩
    have B₁ := M₁.B.mono (l' := l₁ ++ [(I, oI)]) fun q hq => List.mem_append_left _ hq
    have hlx : (normS b.x).cps.toList.length = (normS b.x).length := by simp [Str.length]
    have hil : i < chs.length := hlen ▸ hi
    have hcc : (normS b.x).cps[i + 1]? = some ch := by
      rw [← Array.getElem?_toList, hch, List.getElem?_cons_succ, List.getElem?_append_left hil]; exact hch'
    have hlen2 : i + 1 < (normS b.x).length := by
      have := (Array.getElem?_eq_some_iff.mp hcc).1
      exact this
    have hmax : (normS b.x).length ≤ 9000 := Nat.le_trans (normS_len _) hx.len
    have es : ("self" : Str) ≠ "expected" := by decide
    have ec : ("charStack" : Str) ≠ "expected" := by decide
    have em : ("matched" : Str) ≠ "expected" := by decide
    refine wpAny_execs_cons (op_app F₁ D₁ ((if_neg ec).trans hcs₁) (List.mem_append_left _ M₁.hcs) ?_ rfl hp hk hz1)
    refine e_char F₁ X D₁ Rb₁ B₁.S ((if_neg es).trans hs₁) ?_ hk hy
    refine char_next (c := ch) hA F₁ D₁ X T₀ B₁ (by rw [M₁.off, M₁.size]; omega) (by rw [M₁.off]; omega) (by rw [M₁.size]; omega) (by rw [M₁.off, M₁.chunk]; exact hcc) fun v t h₂ tk₂ F₂ D₂ B₂ => ?_
    have hcs2 : csA ≠ b.sd := nodup_ne nd₁ M₁.hcs M₁.B.S.h2 list_ne_dict
    rw [setO_snoc hI1] at D₂
    refine ⟨_, _, its₁, k₁, F₂, D₂, List.mem_append_left _ (mem_setO M₁.hcs hcs2), by have := M₁.sz; omega, fun h₃ F₃ D₃ => ?_⟩
    rw [setO_snoc hI2] at D₃
    have nd₂ : ((setO b.sd (dictOf (sE w.params b.TS { d₁ with off := d₁.off + 1, ot := v }) n) l₁).map (·.1)).Nodup := setO_nd nd₁
    have hcsm : (csA, PySem.W.listOf (its₁.push (.str (one ch) t)) (k₁ + 1)) ∈ setO csA (PySem.W.listOf (its₁.push (.str (one ch) t)) (k₁ + 1)) (setO b.sd (dictOf (sE w.params b.TS { d₁ with off := d₁.off + 1, ot := v }) n) l₁) := setO_self (mem_setO M₁.hcs hcs2)
    have p1' : pb ≠ b.sd := nodup_ne ndb hpb M₀.B.S.h2 tup_ne_dict
    have p2' : pb ≠ csA := nodup_ne ndb hpb M₀.hcs tup_ne_list
    have hpm := mem_setO (a := csA) (o := PySem.W.listOf (its₁.push (.str (one ch) t)) (k₁ + 1)) (mem_setO (a := b.sd) (o := dictOf (sE w.params b.TS { d₁ with off := d₁.off + 1, ot := v }) n) (M₁.keep _ hpb p1' p2') p1') p2'
    refine wpAny_execs_cons (wpAny_If (wpAny_isTrue_Compare1 (e_last (v := .str (one ch) t) F₃ D₃ ((if_neg ec).trans hcs₁) (List.mem_append_left _ hcsm) (by simp) (ld F₃ (if_pos rfl) ?_ hk hz2) hk hz1)))
    refine notin_tuple_strs (News.isTup D₃.N (List.mem_append_left _ hpm)) (.cons _ _ (.cons _ _ .nil)) (wpAny_truthy_bool ?_)
    refine ite_f (by rw [show ([y, y'] : List Str).any (· == one ch) = true from by rw [← hin]; simp]; rfl) ?_
    refine wpAny_execs_nil (wpAny_execs_nil ?_)
    refine ⟨_, _, _, _, rfl, F₃, D₃, (if_neg es).trans hs₁, (if_neg ec).trans hcs₁, (if_neg em).trans hmt₁, { d₁ with off := d₁.off + 1, ot := v }, its₁.push (.str (one ch) t), k₁ + 1, ?_⟩
    have B₃ := M₁.B.set nd₁ (d' := { d₁ with off := d₁.off + 1, ot := v }) (n' := n) rfl rfl rfl M₁.B.pls M₁.B.pcs
    refine ⟨B₃.other nd₂ (mem_setO M₁.hcs hcs2) list_ne_inst list_ne_inst (fun _ _ => list_ne_dict) (fun _ _ _ => list_ne_dict) list_ne_meth, hcsm, by have := M₁.sz; simp; omega, M₁.chunk, M₁.size, by show d₁.off + 1 = _; rw [M₁.off]; push_cast; rfl, fun z hz n1 n2 => mem_setO (mem_setO (M₁.keep z hz n1 n2) n1) n2⟩
  · rintro m₁ l₁ h tk ⟨hs₁, hcs₁, hmt₁, d₁, its₁, k₁, M₁⟩ F₁ D₁
    rw [hlen] at M₁
    exact done h tk m₁ l₁ d₁ its₁ k₁ M₁ F₁ D₁ hs₁ hcs₁ hmt₁
end
end
end Mine
end
-- part ME
section
open PySem PySem.W PySem.Calls PyProof.Rows
set_option Elab.async false
set_option maxRecDepth 100000
namespace Mine
noncomputable section
theorem obj_tup_dict {vs : Array Value} {es : List DictEntry} {n : Nat} : ({ cls := .type "tuple", data := .seq vs } : Obj) ≠ dictOf es n := by
  intro h
  have := congrArg Obj.data h
  cases this
theorem obj_tup_list {vs its : Array Value} {n : Nat} : ({ cls := .type "tuple", data := .seq vs } : Obj) ≠ PySem.W.listOf its n := by
  intro h
  have := congrArg Obj.cls h
  simp [PySem.W.listOf] at this
section
variable {prog : Program} {w : World} {A : Around} {E : Value → Shared → Prop} {s : Shared} {h₀ : Heap} {L a : Addr} {m : Str → Option Value} {l : List (Addr × Obj)}
  {p : Program} {loose : List Str} {mg mb : Str → Option Value} {cn : Str} {cs : Scope} {cd : Value} {b : Bx} {d : SD} {n : Nat} {pl : Int} {u : Tok} {k : Nat} {r dr q : Addr} {T : Nat → Tok} {lf stv cur : Value} {nr : Nat}
set_option maxHeartbeats 1000000 in
theorem mk_for6 {y1 z1 y2 z2 y3 z3 y4 z4 y5 z5 y6 z6 : Str} {a1 b1 c1 a2 b2 c2 a3 b3 c3 a4 b4 c4 a5 b5 c5 a6 b6 c6 kk kk2 k9 : Nat} {e1 f1 g1 e2 f2 g2 e3 f3 g3 e4 f4 g4 e5 f5 g5 e6 f6 g6 : Pos} {x1 x2 x3 x4 x5 x6 c0 : Nat} {rr : List Nat} {Q : Flow → Shared → Prop} {csA : Addr} {its : Array Value} {k0 : Nat} {p0 p1 p2 p3 p4 p5 p6 p7 p8 p9 p10 p11 p12 p13 p14 px p15 p16 p17 p18 p19 p20 : Pos}
    (hA : Room A 1) (F : Fr h₀ L s.heap m) (X : (Mine.hd.heap_1 w.params).In h₀) (T₀ : TopRead p loose mg mb h₀) (hx : XOk b.x) (D : Ld h₀ L s.heap l) (M₀ : MkSt w.params b n pl u k l csA 0 l d its k0) (Rb : RB w.params l r dr b.st q T lf stv cur nr)
    (hs : m "self" = some (.ref r)) (hcs : m "charStack" = some (.ref csA)) (hmt : m "matched" = some (.bool true)) (hch : (normS b.x).cps.toList = c0 :: x1 :: x2 :: x3 :: x4 :: x5 :: x6 :: rr)
    (h1 : (y1 == one x1 || z1 == one x1) = true) (h2 : (y2 == one x2 || z2 == one x2) = true) (h3 : (y3 == one x3 || z3 == one x3) = true) (h4 : (y4 == one x4 || z4 == one x4) = true) (h5 : (y5 == one x5 || z5 == one x5) = true) (h6 : (y6 == one x6 || z6 == one x6) = true)
    (done : ∀ h' tk m' l' d' its' k', MkSt w.params b n pl u k l csA 6 l' d' its' k' → Fr h₀ L h' m' → Ld h₀ L h' l' → (m' "self" = some (.ref r)) → (m' "charStack" = some (.ref csA)) → (m' "matched" = some (.bool true)) → Q .next { s with heap := h', toks := tk })
    (hk : cs.kind = .function := by rfl) (hy : (envOf cn cs L a cd).kindOf "self" = some .local := by rfl) (hz1 : (envOf cn cs L a cd).kindOf "charStack" = some .local := by rfl) (hz2 : (envOf cn cs L a cd).kindOf "expected" = some .local := by rfl) (hp : (p6.endLine == p7.line) = true := by rfl) :
    wpAny (model prog w) A (exec (.For (.Name "expected" px) (.Tuple [.Tuple [.Constant (.str y1) a1 e1, .Constant (.str z1) b1 f1] c1 g1, .Tuple [.Constant (.str y2) a2 e2, .Constant (.str z2) b2 f2] c2 g2, .Tuple [.Constant (.str y3) a3 e3, .Constant (.str z3) b3 f3] c3 g3, .Tuple [.Constant (.str y4) a4 e4, .Constant (.str z4) b4 f4] c4 g4, .Tuple [.Constant (.str y5) a5 e5, .Constant (.str z5) b5 f5] c5 g5, .Tuple [.Constant (.str y6) a6 e6, .Constant (.str z6) b6 f6] c6 g6] k9 p0) [.Expr (.Call (.Attribute (.Name "charStack" p5) "append" p6) [.Call (.Attribute (.Attribute (.Name "self" p1) "stream" p2) "char" p3) [] [] p4] [] p7) p8,
      .If (.Compare (.Subscript (.Name "charStack" p9) (.UnaryOp .USub (.Constant (.int 1) kk p10) p11) p12) [.NotIn] [.Name "expected" p13] p14) [.Assign [.Name "matched" p17] (.Constant (.bool false) kk2 p18) p19, .Break p15] [] p16] [] p20) (envOf cn cs L a cd)) Q E s := by
  refine wpAny_For ?_ ?_
  rotate_left
  · intro x; rfl
  refine Tuple_ ?_
  have F₀ := F
  have D₀ := D
  refine wpAny_items_cons ?_
  with_reducible refine pair_el F D fun hh1 tk q1 t1 u1 F D => ?_
  refine wpAny_items_cons ?_
  with_reducible refine pair_el F D fun hh2 tk q2 t2 u2 F D => ?_
  refine wpAny_items_cons ?_
  with_reducible refine pair_el F D fun hh3 tk q3 t3 u3 F D => ?_
  refine wpAny_items_cons ?_
  with_reducible refine pair_el F D fun hh4 tk q4 t4 u4 F D => ?_
  refine wpAny_items_cons ?_
  with_reducible refine pair_el F D fun hh5 tk q5 t5 u5 F D => ?_
  refine wpAny_items_cons ?_
  with_reducible refine pair_el F D fun hh6 tk q6 t6 u6 F D => ?_
  refine wpAny_items_nil ?_
  refine newTup_ld F D (fun Tu g F D => ?_) (by show 6 ≤ sizeLine; decide)
  refine iter_tup hA.handled F D (List.mem_append_right _ (.head _)) fun I oI h' St F' D' IT => ?_
  have D' : Ld h₀ L h' ((l ++ ([(q1, tup2 y1 z1 t1 u1)] ++ ([(q2, tup2 y2 z2 t2 u2)] ++ ([(q3, tup2 y3 z3 t3 u3)] ++ ([(q4, tup2 y4 z4 t4 u4)] ++ ([(q5, tup2 y5 z5 t5 u5)] ++ ([(q6, tup2 y6 z6 t6 u6)] ++ [(Tu, { cls := .type "tuple", data := .seq ([Value.ref q1, Value.ref q2, Value.ref q3, Value.ref q4, Value.ref q5, Value.ref q6] : List Value).toArray })]))))))) ++ [(I, oI)]) := by simpa only [List.append_assoc] using D'
  have sub : ∀ z ∈ l, z ∈ l ++ ([(q1, tup2 y1 z1 t1 u1)] ++ ([(q2, tup2 y2 z2 t2 u2)] ++ ([(q3, tup2 y3 z3 t3 u3)] ++ ([(q4, tup2 y4 z4 t4 u4)] ++ ([(q5, tup2 y5 z5 t5 u5)] ++ ([(q6, tup2 y6 z6 t6 u6)] ++ [(Tu, { cls := .type "tuple", data := .seq ([Value.ref q1, Value.ref q2, Value.ref q3, Value.ref q4, Value.ref q5, Value.ref q6] : List Value).toArray })])))))) := fun z hz => List.mem_append_left _ hz
  have ndl := nd_left D'.nd
  have mT : (Tu, ({ cls := .type "tuple", data := .seq ([Value.ref q1, Value.ref q2, Value.ref q3, Value.ref q4, Value.ref q5, Value.ref q6] : List Value).toArray } : Obj)) ∈ l ++ ([(q1, tup2 y1 z1 t1 u1)] ++ ([(q2, tup2 y2 z2 t2 u2)] ++ ([(q3, tup2 y3 z3 t3 u3)] ++ ([(q4, tup2 y4 z4 t4 u4)] ++ ([(q5, tup2 y5 z5 t5 u5)] ++ ([(q6, tup2 y6 z6 t6 u6)] ++ [(Tu, { cls := .type "tuple", data := .seq ([Value.ref q1, Value.ref q2, Value.ref q3, Value.ref q4, Value.ref q5, Value.ref q6] : List Value).toArray })])))))) := by simp
  have M₁ : MkSt w.params b n pl u k (l ++ ([(q1, tup2 y1 z1 t1 u1)] ++ ([(q2, tup2 y2 z2 t2 u2)] ++ ([(q3, tup2 y3 z3 t3 u3)] ++ ([(q4, tup2 y4 z4 t4 u4)] ++ ([(q5, tup2 y5 z5 t5 u5)] ++ ([(q6, tup2 y6 z6 t6 u6)] ++ [(Tu, { cls := .type "tuple", data := .seq ([Value.ref q1, Value.ref q2, Value.ref q3, Value.ref q4, Value.ref q5, Value.ref q6] : List Value).toArray })]))))))) csA 0 (l ++ ([(q1, tup2 y1 z1 t1 u1)] ++ ([(q2, tup2 y2 z2 t2 u2)] ++ ([(q3, tup2 y3 z3 t3 u3)] ++ ([(q4, tup2 y4 z4 t4 u4)] ++ ([(q5, tup2 y5 z5 t5 u5)] ++ ([(q6, tup2 y6 z6 t6 u6)] ++ [(Tu, { cls := .type "tuple", data := .seq ([Value.ref q1, Value.ref q2, Value.ref q3, Value.ref q4, Value.ref q5, Value.ref q6] : List Value).toArray })]))))))) d its k0 := ⟨M₀.B.mono sub, sub _ M₀.hcs, M₀.sz, M₀.chunk, M₀.size, M₀.off, fun z hz _ _ => hz⟩
  refine mk_loop (chs := [x1, x2, x3, x4, x5, x6]) (rr := rr) (Rb := ⟨sub _ Rb.h1, sub _ Rb.h2⟩) hA X T₀ hx F' D' IT M₁ mT (nodup_ne ndl mT (sub _ M₀.B.S.h2) obj_tup_dict) (nodup_ne ndl mT (sub _ M₀.hcs) obj_tup_list) hs hcs hmt hch rfl (fun i v hv => ?_) (fun h' tk m' l' d' its' k' M F₅ D₅ e1 e2 e3 => ?_) hk hy hz1 hz2 hp
  rotate_left
  · exact done h' tk m' l' d' its' k' ⟨M.B, M.hcs, M.sz, M.chunk, M.size, M.off, fun z hz n1 n2 => M.keep z (sub z hz) n1 n2⟩ F₅ D₅ e1 e2 e3
  match i, hv with
  | 0, hv => exact ⟨q1, y1, z1, t1, u1, x1, by simpa using hv.symm, by simp, rfl, h1⟩
  | 1, hv => exact ⟨q2, y2, z2, t2, u2, x2, by simpa using hv.symm, by simp, rfl, h2⟩
  | 2, hv => exact ⟨q3, y3, z3, t3, u3, x3, by simpa using hv.symm, by simp, rfl, h3⟩
  | 3, hv => exact ⟨q4, y4, z4, t4, u4, x4, by simpa using hv.symm, by simp, rfl, h4⟩
  | 4, hv => exact ⟨q5, y5, z5, t5, u5, x5, by simpa using hv.symm, by simp, rfl, h5⟩
  | 5, hv => exact ⟨q6, y6, z6, t6, u6, x6, by simpa using hv.symm, by simp, rfl, h6⟩
  | n + 6, hv => simp at hv
end
end
end Mine
end
-- part MF
section
open PySem PySem.W PySem.Calls PyProof.Rows
set_option Elab.async false
set_option maxRecDepth 100000
namespace Mine
noncomputable section
theorem rE_setcur (P T st lf stv cur q v k n) : (putL "currentToken" (PyData.keyHash P "currentToken") (.str "currentToken" k) v (rE P T st lf stv cur q), putN "currentToken" (rE P T st lf stv cur q) n) = (rE P T st lf stv v q, n) := by kernel_rfl
theorem cr_tcur {P : Params} : takerIn (Mine.hd.heap_1 P) 762 "currentToken" = some none := by k_is
theorem inst_ne_inst {C C' dx dx' : Addr} (h : C ≠ C') : instObj C dx ≠ instObj C' dx' := by
  intro e
  have := congrArg Obj.cls e
  simp [instObj] at this
  exact h this
section
variable {prog : Program} {w : World} {A : Around} {E : Value → Shared → Prop} {s : Shared} {h₀ : Heap} {L a : Addr} {m : Str → Option Value} {l : List (Addr × Obj)}
  {R : Result → Shared → Prop} {p : Program} {loose : List Str} {mg mb : Str → Option Value} {cn : Str} {cs : Scope} {cd : Value} {b : Bx} {d : SD} {n : Nat} {pl : Int} {u : Tok} {k : Nat} {r dr st q : Addr} {T : Nat → Tok} {lf stv cur : Value} {nr : Nat}

/-- {'type': tokenTypes['Doctype'], 'name': '', 'publicId': None, 'systemId': None, 'correct': True} -/
theorem mk_tok {p1 p2 p3 p4 p5 p6 p7 p8 p9 p10 p11 p12 p13 : Pos} {k1 k2 k3 k4 k5 k6 k7 k8 k9 k10 : Nat} {Q : Value → Shared → Prop} (F : Fr h₀ L s.heap m) (X : (Mine.hd.heap_1 w.params).In h₀) (T₀ : TopRead p loose mg mb h₀) (D : Ld h₀ L s.heap l)
    (h : ∀ h' tk b o, Fr h₀ L h' m → Ld h₀ L h' ((b, o) :: l) → (∀ p ∈ l, p.1 < b) → TokOk prog w ⟨Str.ofString "", none, none, true⟩ o → Q (.ref b) { s with heap := h', toks := tk })
    (hk : cs.kind = .function := by rfl) (hz : (envOf cn cs L a cd).kindOf "tokenTypes" = some .globalImplicit := by rfl) :
    wpAny (model prog w) A (eval (.Dict [some (.Constant (.str "type") k1 p1), some (.Constant (.str "name") k2 p2), some (.Constant (.str "publicId") k3 p3), some (.Constant (.str "systemId") k4 p4), some (.Constant (.str "correct") k5 p5)]
      [.Subscript (.Name "tokenTypes" p6) (.Constant (.str "Doctype") k6 p7) p8, .Constant (.str "") k7 p9, .Constant .none k8 p10, .Constant .none k9 p11, .Constant (.bool true) k10 p12] p13) (envOf cn cs L a cd)) Q E s := by
  refine kdn_str rfl F D.N T₀.nolimit rfl rfl (List.cons_ne_nil _ _) (Nat.le_of_ble_eq_true rfl) fun b h' o F' N' lt lo hd => ?_
  refine pairTrees_cons_walk (wpAny_Constant_str (Subscript_ (name_K F' X T₀ g_tt (wpAny_Constant_str ?_) hk hz)))
  refine topItem_K (v := .int 0 533) F' X (by k_is) (by repeat (first | exact True.intro | refine And.intro ⟨_, _, rfl, rfl⟩ ?_)) (by k_is) ?_
  refine pairTrees_cons_walk (wpAny_Constant_str (wpAny_Constant_str ?_))
  refine pairTrees_cons_walk (wpAny_Constant_str (wpAny_Constant_none ?_))
  refine pairTrees_cons_walk (wpAny_Constant_str (wpAny_Constant_none ?_))
  refine pairTrees_cons_walk (wpAny_Constant_str (wpAny_Constant_bool (pairTrees_nil_walk ?_)))
  refine kdn_made_str (g := fun o' => (b, o') :: l) F' N' (.head fun p hp => Nat.ne_of_lt (lt p hp)) hd rfl (of_decide_eq_true (by kernel_rfl)) fun h'' o' F'' N'' hd' => ?_
  have nd : (((b, o') :: l).map (·.1)).Nodup := List.nodup_cons.mpr ⟨fun q => by
    obtain ⟨x, hx, e⟩ := List.mem_map.mp q
    exact absurd (lt x hx) (by rw [show x.1 = b from e]; exact Nat.lt_irrefl _), D.nd⟩
  exact h _ _ _ _ F'' ⟨N'', nd⟩ lt ⟨_, _, _, _, hd', rfl, rfl⟩

/-- self.currentToken = .. -/
theorem r_setcur {v : Value} {Q : Unit → Shared → Prop} (F : Fr h₀ L s.heap m) (X : (Mine.hd.heap_1 w.params).In h₀) (D : Ld h₀ L s.heap l) (B : RB w.params l r dr st q T lf stv cur nr)
    (h : ∀ h', Fr h₀ L h' m → Ld h₀ L h' (setO dr (dictOf (rE w.params T st lf stv v q) nr) l) → Q () { s with heap := h', toks := s.toks + 2 }) :
    wpAny (model prog w) A (setAttr (.ref r) "currentToken" v) Q E s :=
  set_dict F X D.N (InstAt.of_news D.N B.h1 B.h2) rfl cr_set cr_over cr_tcur cr_dict (by rw [rE_cur]; rfl) (rE_setcur _ _ _ _ _ _ _ _ _ _) (setO_upd D.nd B.h2) (Nat.le_of_ble_eq_true rfl) fun h' F' N' => h h' F' ⟨N', setO_nd D.nd⟩

/-- self.state = self.X -/
theorem r_setstate {x : Str} {f : Addr} {p1 p2 p3 p4 p5 : Pos} {Q : Flow → Shared → Prop} (Sf : StFn w.params x f) (F : Fr h₀ L s.heap m) (X : (Mine.hd.heap_1 w.params).In h₀) (D : Ld h₀ L s.heap l) (B : RB w.params l r dr st q T lf stv cur nr) (hx : m "self" = some (.ref r))
    (h : ∀ h' tk mu, Fr h₀ L h' m → (∀ p ∈ l, p.1 < mu) → Ld h₀ L h' (setO dr (dictOf (rE w.params T st lf (.ref mu) cur q) nr) ((mu, methodObj (.ref f) (.ref r)) :: l)) → Q .next { s with heap := h', toks := tk })
    (hk : cs.kind = .function := by rfl) (hy : (envOf cn cs L a cd).kindOf "self" = some .local := by rfl) :
    wpAny (model prog w) A (exec (.Assign [.Attribute (.Name "self" p1) "state" p2] (.Attribute (.Name "self" p3) x p4) p5) (envOf cn cs L a cd)) Q E s := by
  refine plainObj_wpAny_Assign_Attribute (Attribute_Name_ (ld F hx ?_ hk hy))
  refine kbm_bound F X D.N (InstAt.of_news D.N B.h1 B.h2) (cr_get _) cr_dict Sf.find Sf.fn (fn_get Sf.fn) (fn_takes Sf.fn) Sf.cp (Sf.off _ _ _ _ _ _) fun mu h' F' N' lt => ?_
  have nd : (((mu, methodObj (.ref f) (.ref r)) :: l).map (·.1)).Nodup := List.nodup_cons.mpr ⟨fun q => by
    obtain ⟨x, hx, e⟩ := List.mem_map.mp q
    exact absurd (lt x hx) (by rw [show x.1 = mu from e]; exact Nat.lt_irrefl _), D.nd⟩
  refine ld F' hx ?_ hk hy
  exact set_dict F' X N' (InstAt.of_news N' (.tail _ B.h1) (.tail _ B.h2)) rfl cr_set cr_over cr_tstate cr_dict (by rw [rE_state]; rfl) (rE_setstate _ _ _ _ _ _ _ _ _) (setO_upd nd (.tail _ B.h2)) (Nat.le_of_ble_eq_true rfl)
    fun h'' F'' N'' => h _ _ _ F'' lt ⟨N'', setO_nd nd⟩
end
end
end Mine
end
-- part MG
section
open PySem PySem.W PySem.Calls PyProof.Rows
set_option Elab.async false
set_option maxRecDepth 100000
namespace Mine
noncomputable section
theorem rE_ne_tE {P : Params} {T T' : Nat → Tok} {st q : Addr} {lf stv cur : Value} {n n' : Nat} {x : Str} {xt : Tok} {pl : Int} {u : Tok} : dictOf (rE P T st lf stv cur q) n ≠ dictOf (tE P T' x xt pl u) n' := by
  intro h
  have h2 := congrArg Obj.data h
  simp [dictOf, rE, tE] at h2
theorem nd_snoc_ne {l : List (Addr × Obj)} {p z : Addr × Obj} (h : ((l ++ [p]).map (·.1)).Nodup) (hz : z ∈ l) : z.1 ≠ p.1 := by
  rw [List.map_append, List.nodup_append] at h
  exact h.2.2 z.1 (List.mem_map_of_mem hz) p.1 (by simp)
theorem meth_ne_inst {f x : Value} {C dx : Addr} : methodObj f x ≠ instObj C dx := by
  intro h
  have := congrArg Obj.data h
  cases this
theorem in_rest {l e rest : List (Addr × Obj)} {z : Addr × Obj} (hp : l.Perm (e ++ rest)) (hz : z ∈ l) (hn : ∀ p ∈ e, z ≠ p) : z ∈ rest := by
  rcases List.mem_append.mp (hp.mem_iff.mp hz) with x | x
  · exact absurd rfl (hn z x)
  · exact x
theorem t_true' {prog : Program} {w : World} {A : Around} {s : Shared} {h₀ : Heap} {L a : Addr} {m : Str → Option Value} {cn : Str} {cs : Scope} {cd : Value} {E : Value → Shared → Prop} {x : Str} {b : Bool} {p1 : Pos} {Q : Bool → Shared → Prop} (F : Fr h₀ L s.heap m) (hx : m x = some (.bool b)) (h : Q b s)
    (hk : cs.kind = .function := by rfl) (hy : (envOf cn cs L a cd).kindOf x = some .local := by rfl) (hd : (x == ("__debug__" : Str)) = false := by decide) :
    wpAny (model prog w) A (isTrue (.Name x p1) (envOf cn cs L a cd) (eval (.Name x p1) (envOf cn cs L a cd))) Q E s :=
  isTrue_plain (ld F hx (wpAny_truthy_bool h) hk hy hd)
section
variable {prog : Program} {w : World} {A : Around} {E : Value → Shared → Prop} {s : Shared} {h₀ : Heap} {L a : Addr} {m : Str → Option Value} {l : List (Addr × Obj)}
  {R : Result → Shared → Prop} {p : Program} {loose : List Str} {mg mb : Str → Option Value} {cn : Str} {cs : Scope} {cd : Value} {b : Bx} {d : SD} {n : Nat} {pl : Int} {u : Tok} {k : Nat} {r dr q : Addr} {T : Nat → Tok} {lf stv cur : Value} {nr nq : Nat}

/-- how things stand behind the word -/
structure Begun (P : Params) (prog : Program) (w : World) (b : Bx) (k : Nat) (r q : Addr) (rest : List Nat) (c : Cx) (z : SD) (dd : Dy) (l' : List (Addr × Obj)) : Prop where
  hr : c.r = r
  hq : c.q = q
  hst : c.st = b.st
  hsd : c.sd = b.sd
  hTS : c.TS = b.TS
  zok : ZOk z
  rep : Rep prog w c z ⟨.doctype, rest, ⟨Str.ofString "", none, none, true⟩, [], false⟩ dd l'
  tx : z.tx = .ref b.tx
  rce : z.rce = .ref b.mu
  bc : z.bc = .none
  pls : ∃ a ua, z.pl = .int a ua
  pcs : ∃ a ua, z.pc = .int a ua
  h1 : (b.tx, instObj 73 b.td) ∈ l'
  h2 : ∃ v, (b.td, dictOf (tE P b.TT b.x b.xt b.x.length v) k) ∈ l'
  hmu : (b.mu, methodObj (.ref 148) (.ref b.st)) ∈ l'

theorem begun_of {P : Params} {prog : Program} {w : World} {g : Heap} {L' : Addr} {h : Heap} {lz : List (Addr × Obj)} {b : Bx} {k n nr nq : Nat} {r dr q tkA mu : Addr} {T : Nat → Tok} {lf : Value} {d : SD} {ot : Obj} {v : Tok} {x0 x1 x2 x3 x4 x5 x6 : Nat} {rr : List Nat}
    (D : Ld g L' h lz) (hx : XOk b.x) (m_dr : (dr, dictOf (rE P T b.st lf (.ref mu) (.ref tkA) q) nr) ∈ lz) (m_sd : (b.sd, dictOf (sE P b.TS d) n) ∈ lz) (m_q : (q, PySem.W.listOf #[] nq) ∈ lz) (m_tk : (tkA, ot) ∈ lz) (m_r : (r, instObj 762 dr) ∈ lz) (m_st : (b.st, instObj 166 b.sd) ∈ lz)
    (m_mu : (mu, methodObj (.ref DS.doctype.fn) (.ref r)) ∈ lz) (m_tx : (b.tx, instObj 73 b.td) ∈ lz) (m_td : (b.td, dictOf (tE P b.TT b.x b.xt b.x.length v) k) ∈ lz) (m_mm : (b.mu, methodObj (.ref 148) (.ref b.st)) ∈ lz)
    (t1 : tkA ≠ dr) (t2 : tkA ≠ b.sd) (t3 : tkA ≠ q) (t4 : tkA ≠ r) (t5 : tkA ≠ b.st) (t6 : tkA ≠ b.td) (t7 : mu ≠ tkA) (t8 : tkA ≠ b.tx) (t9 : tkA ≠ b.mu)
    (e1 : d.tx = .ref b.tx) (e2 : d.rce = .ref b.mu) (e3 : d.bc = .none) (e4 : ∃ a ua, d.pl = .int a ua) (e5 : ∃ a ua, d.pc = .int a ua) (e6 : d.chunk = normS b.x) (e7 : d.size = ((normS b.x).length : Int)) (e8 : d.off = ((6 : Nat) : Int) + 1)
    (hch : (normS b.x).cps.toList = x0 :: x1 :: x2 :: x3 :: x4 :: x5 :: x6 :: rr) (hot : TokOk prog w ⟨Str.ofString "", none, none, true⟩ ot) :
    ∃ c z dd rest', Begun P prog w b k r q rr c z dd rest' ∧ Ld g L' h (led P c dd ++ rest') ∧ (∀ p ∈ lz, p.1 ≠ b.sd → p.1 ≠ dr → p.1 ≠ r → p.1 ≠ q → p.1 ≠ b.st → p.1 ≠ tkA → p ∈ rest') := by
  have nd := D.nd
  have r1 : dr ≠ b.sd := nodup_ne nd m_dr m_sd rE_ne_sE
  have r2 : dr ≠ q := Ne.symm (nodup_ne nd m_q m_dr list_ne_dict)
  have r3 : dr ≠ r := Ne.symm (nodup_ne nd m_r m_dr inst_ne_dict)
  have r4 : dr ≠ b.st := Ne.symm (nodup_ne nd m_st m_dr inst_ne_dict)
  have s1 : b.sd ≠ q := Ne.symm (nodup_ne nd m_q m_sd list_ne_dict)
  have s2 : b.sd ≠ r := Ne.symm (nodup_ne nd m_r m_sd inst_ne_dict)
  have s3 : b.sd ≠ b.st := Ne.symm (nodup_ne nd m_st m_sd inst_ne_dict)
  have q1 : q ≠ r := nodup_ne nd m_q m_r list_ne_inst
  have q2 : q ≠ b.st := nodup_ne nd m_q m_st list_ne_inst
  have p1 : r ≠ b.st := nodup_ne nd m_r m_st (inst_ne_inst (by decide))
  have hnd : ((led P ⟨r, dr, b.st, b.sd, q, tkA, T, b.TS, lf⟩ ⟨.ref mu, nr, d, n, #[], nq, ot⟩).map (·.1)).Nodup := by
    show ([dr, b.sd, q, tkA, r, b.st] : List Addr).Nodup
    simp only [List.nodup_cons, List.mem_cons, List.not_mem_nil, or_false, not_or, not_false_eq_true, List.nodup_nil, and_true]
    exact ⟨⟨r1, r2, Ne.symm t1, r3, r4⟩, ⟨s1, Ne.symm t2, s2, s3⟩, ⟨Ne.symm t3, q1, q2⟩, ⟨t4, t5⟩, p1⟩
  have hmem : ∀ z ∈ led P ⟨r, dr, b.st, b.sd, q, tkA, T, b.TS, lf⟩ ⟨.ref mu, nr, d, n, #[], nq, ot⟩, z ∈ lz := by
    intro z hz
    simp only [led, List.mem_cons, List.not_mem_nil, or_false] at hz
    rcases hz with rfl | rfl | rfl | rfl | rfl | rfl <;> assumption
  obtain ⟨rest', hperm⟩ := perm_pick hnd hmem
  have keep : ∀ p ∈ lz, p.1 ≠ b.sd → p.1 ≠ dr → p.1 ≠ r → p.1 ≠ q → p.1 ≠ b.st → p.1 ≠ tkA → p ∈ rest' := fun p hp n1 n2 n3 n4 n5 n6 => in_rest hperm hp fun z hz e => by
    subst e
    simp only [led, List.mem_cons, List.not_mem_nil, or_false] at hz
    rcases hz with rfl | rfl | rfl | rfl | rfl | rfl
    · exact n2 rfl
    · exact n1 rfl
    · exact n4 rfl
    · exact n6 rfl
    · exact n3 rfl
    · exact n5 rfl
  have hlx : (normS b.x).cps.toList.length = (normS b.x).length := by simp [Str.length]
  have hmax : (normS b.x).length ≤ 9000 := Nat.le_trans (normS_len _) hx.len
  have hrr : rr.length ≤ 9000 := by rw [hch] at hlx; simp only [List.length_cons] at hlx; omega
  have hoff : d.off = (7 : Int) := e8
  refine ⟨⟨r, dr, b.st, b.sd, q, tkA, T, b.TS, lf⟩, d, ⟨.ref mu, nr, d, n, #[], nq, ot⟩, rest', ?_, Ld.perm D hperm.symm, keep⟩
  refine ⟨rfl, rfl, rfl, rfl, rfl, ⟨by rw [e6]; exact e7, by rw [e6]; exact hmax⟩, ⟨⟨mu, rfl, ?_⟩, ⟨d.ot, [x0, x1, x2, x3, x4, x5, x6], ?_, by rw [e6]; exact hch⟩, hot, ⟨#[], ⟨[], rfl, (fun _ h => by cases h), .nil⟩, rfl⟩, ?_, (fun _ h => by cases h), (fun _ h => by cases h)⟩, e1, e2, e3, e4, e5, ?_, ⟨v, ?_⟩, ?_⟩
  · exact keep _ m_mu (nodup_ne nd m_mu m_sd meth_ne_dict) (nodup_ne nd m_mu m_dr meth_ne_dict) (nodup_ne nd m_mu m_r meth_ne_inst) (Ne.symm (nodup_ne nd m_q m_mu list_ne_meth)) (nodup_ne nd m_mu m_st meth_ne_inst) t7
  · show d = { d with off := (7 : Int), ot := d.ot }
    rw [← hoff]
  · show 0 + rr.length ≤ 9000
    omega
  · exact keep _ m_tx (nodup_ne nd m_tx m_sd inst_ne_dict) (nodup_ne nd m_tx m_dr inst_ne_dict) (nodup_ne nd m_tx m_r (inst_ne_inst (by decide))) (Ne.symm (nodup_ne nd m_q m_tx list_ne_inst)) (nodup_ne nd m_tx m_st (inst_ne_inst (by decide))) (Ne.symm t8)
  · exact keep _ m_td (nodup_ne nd m_td m_sd tE_ne_sE) (Ne.symm (nodup_ne nd m_dr m_td rE_ne_tE)) (Ne.symm (nodup_ne nd m_r m_td inst_ne_dict)) (Ne.symm (nodup_ne nd m_q m_td list_ne_dict)) (Ne.symm (nodup_ne nd m_st m_td inst_ne_dict)) (Ne.symm t6)
  · exact keep _ m_mm (nodup_ne nd m_mm m_sd meth_ne_dict) (nodup_ne nd m_mm m_dr meth_ne_dict) (nodup_ne nd m_mm m_r meth_ne_inst) (Ne.symm (nodup_ne nd m_q m_mm list_ne_meth)) (nodup_ne nd m_mm m_st meth_ne_inst) (Ne.symm t9)

set_option maxHeartbeats 2000000 in
theorem markup_in {x0 x1 x2 x3 x4 x5 x6 : Nat} {rr : List Nat} (hA : Room A 7) (F : Fr h₀ L s.heap m) (D : Ld h₀ L s.heap l) (X : (Mine.hd.heap_1 w.params).In h₀) (T₀ : TopRead p loose mg mb h₀) (hx : XOk b.x)
    (B : SB w.params l b d n 0 u k) (h0 : d.off = 0) (h1 : d.size = 0) (Rb : RB w.params l r dr b.st q T lf stv cur nr) (hq : (q, PySem.W.listOf #[] nq) ∈ l)
    (hch : (normS b.x).cps.toList = x0 :: x1 :: x2 :: x3 :: x4 :: x5 :: x6 :: rr)
    (c0 : x0 = 100 ∨ x0 = 68) (c1 : x1 = 111 ∨ x1 = 79) (c2 : x2 = 99 ∨ x2 = 67) (c3 : x3 = 116 ∨ x3 = 84) (c4 : x4 = 121 ∨ x4 = 89) (c5 : x5 = 112 ∨ x5 = 80) (c6 : x6 = 101 ∨ x6 = 69)
    (hR : ∀ c z dd rest' h' tk, Begun w.params prog w b k r q rr c z dd rest' → Fr h₀ L h' m → Ld h₀ L h' (led w.params c dd ++ rest') → (∀ p ∈ l, p.1 ≠ b.sd → p.1 ≠ b.td → p.1 ≠ dr → p.1 ≠ r → p.1 ≠ q → p.1 ≠ b.st → p ∈ rest') → R (.ok (.ret (.bool true))) { s with heap := h', toks := tk }) :
    codeAny (model prog w) A (.call (.ref 605) ⟨[.ref r], []⟩) R s := by
  refine call_M (binds := [("self", .ref r)]) hA.lt F D.N X T₀ (f := 605) (by k_is) (by k_is) (BindsTo.of_eq rfl) (locs rfl) (fun g L' h₁ F₁ N₁ X₁ T₁ lt => ?_) (by decide)
  have hA' := hA.deeper (env := envOf "HTMLTokenizer.markupDeclarationOpenState" { kind := .function, names := [("self", .local), ("charStack", .local), ("matched", .local), ("expected", .local), ("tokenTypes", .globalImplicit)], isGenerator := false, isCoroutine := false } L' 605 (.ref 604))
  have D₁ : Ld g L' h₁ l := ⟨N₁, D.nd⟩
  refine wpAny_execs_cons (wpAny_Assign_Name (List_ ?_))
  refine wpAny_items_cons ?_
  refine e_char F₁ X₁ D₁ Rb B.S rfl ?_
  refine char_first (hA'.le (by decide)) F₁ D₁ X₁ T₁ hx B h0 h1 hch fun d₂ v tq tup t h₂ tk₂ ek es eo F₂ D₂ B₂ => ?_
  refine wpAny_items_nil ?_
  refine newList_ld F₂ D₂ (fun csA h₃ F₃ D₃ => ?_) (by show 1 ≤ sizeLine; decide)
  refine stN F₃ D₃.N fun h₄ F₄ N₄ => ?_
  have D₄ : Ld g L' h₄ _ := ⟨N₄, D₃.nd⟩
  refine wpAny_execs_cons (wpAny_If (wpAny_isTrue_Compare1 (e_last (v := .str (one x0) t) (k := 0) F₄ D₄ (if_pos rfl) (List.mem_append_right _ (.head _)) rfl (wpAny_Constant_str (eq_str (wpAny_truthy_bool ?_))))))
  refine ite_f (one_ne (n := 45) (by rcases c0 with rfl | rfl <;> decide) rfl) ?_
  refine wpAny_execs_cons (wpAny_If (wpAny_isTrue_Compare1 (e_last (v := .str (one x0) t) (k := 0) F₄ D₄ (if_pos rfl) (List.mem_append_right _ (.head _)) rfl ?_)))
  refine Tuple_ (wpAny_items_cons (wpAny_Constant_str (wpAny_items_cons (wpAny_Constant_str (wpAny_items_nil ?_)))))
  refine newTup_ld F₄ D₄ (fun tb h₅ F₅ D₅ => ?_) (by show 2 ≤ sizeLine; decide)
  refine in_tuple_strs (News.isTup D₅.N (List.mem_append_right _ (.head _))) (.cons _ _ (.cons _ _ .nil)) (wpAny_truthy_bool ?_)
  refine ite_t (by have := two_yes (x := "d") (y := "D") c0 rfl rfl; simpa using this) ?_
  refine wpAny_execs_cons (wpAny_Assign_Name (wpAny_Constant_bool (stN F₅ D₅.N fun h₆ F₆ N₆ => ?_)))
  have D₆ : Ld g L' h₆ _ := ⟨N₆, D₅.nd⟩
  have r1 : r ≠ b.sd := nodup_ne D.nd Rb.h1 B.S.h2 inst_ne_dict
  have r2 : r ≠ b.td := nodup_ne D.nd Rb.h1 B.h2 inst_ne_dict
  have r3 : dr ≠ b.sd := nodup_ne D.nd Rb.h2 B.S.h2 rE_ne_sE
  have r4 : dr ≠ b.td := nodup_ne D.nd Rb.h2 B.h2 rE_ne_tE
  have mem6 : ∀ z ∈ l, z.1 ≠ b.sd → z.1 ≠ b.td → z ∈ setO b.sd (dictOf (sE w.params b.TS d₂) n) (setO b.td (dictOf (tE w.params b.TT b.x b.xt b.x.length v) k) (l ++ [(tq, tup)])) := fun z hz n1 n2 => mem_setO (mem_setO (List.mem_append_left _ hz) n2) n1
  have ecs : ("charStack" : Str) ≠ "matched" := by decide
  have ese : ("self" : Str) ≠ "matched" := by decide
  have ese2 : ("self" : Str) ≠ "charStack" := by decide
  refine wpAny_execs_cons ?_
  refine @mk_for6 prog w _ _ _ _ _ _ _ _ _ _ _ _ _ _ _ _ _ _ _ _ _ _ _ _ _ _ _ _ _ _ _ _ _ _ _ _ _ _ _ _ _ _ _ _ _ _ _ _ _ _ _ _ _ _ _ _ _ _ _ _ _ _ _ _ _ _ _ _ _ _ _ _ _ _ _ _ _ _ _ _ _ _ _ _ _ _ _ _ _ _ _ _ _ _ _ _ _ _ _ _ _ _ _ _ _ _ _ _ _ _ _ _ _ _  (hA'.le (by decide)) F₆ X₁ T₁ hx D₆ ⟨B₂.mono fun z hz => List.mem_append_left _ (List.mem_append_left _ hz), List.mem_append_left _ (List.mem_append_right _ (.head _)), (by show 1 ≤ 10 + 0; decide), ek, es, eo, fun z hz _ _ => hz⟩
    ⟨List.mem_append_left _ (List.mem_append_left _ (mem6 _ Rb.h1 r1 r2)), List.mem_append_left _ (List.mem_append_left _ (mem6 _ Rb.h2 r3 r4))⟩ ((if_neg ese).trans ((if_neg ese2).trans rfl)) ((if_neg ecs).trans (if_pos rfl)) (if_pos rfl) hch ?k1 ?k2 ?k3 ?k4 ?k5 ?k6 (fun h₇ tk₇ m₇ l₇ d₇ its₇ k₇ M F₇ D₇ hs₇ hcs₇ hmt₇ => ?_) rfl rfl rfl rfl rfl
  case k1 => exact two_yes c1 rfl rfl
  case k2 => exact two_yes c2 rfl rfl
  case k3 => exact two_yes c3 rfl rfl
  case k4 => exact two_yes c4 rfl rfl
  case k5 => exact two_yes c5 rfl rfl
  case k6 => exact two_yes c6 rfl rfl
  dsimp only
  have keep7 : ∀ z ∈ l, z.1 ≠ b.sd → z.1 ≠ b.td → z ∈ l₇ := fun z hz n1 n2 => M.keep z (List.mem_append_left _ (List.mem_append_left _ (mem6 z hz n1 n2))) n1 (nd_snoc_ne D₃.nd (mem6 z hz n1 n2))
  have Rb₇ : RB w.params l₇ r dr b.st q T lf stv cur nr := ⟨keep7 _ Rb.h1 r1 r2, keep7 _ Rb.h2 r3 r4⟩
  refine wpAny_execs_cons (wpAny_If (t_true' F₇ hmt₇ ?_))
  refine ite_t rfl ?_
  refine wpAny_execs_cons (plainObj_wpAny_Assign_Attribute (mk_tok F₇ X₁ T₁ D₇ fun h₈ tk₈ tkA ot F₈ D₈ lt₈ hot => ?_))
  refine ld F₈ hs₇ ?_
  refine r_setcur F₈ X₁ D₈ (RB.mk (.tail _ Rb₇.h1) (.tail _ Rb₇.h2)) fun h₉ F₉ D₉ => ?_
  have r5 : r ≠ dr := nodup_ne D.nd Rb.h1 Rb.h2 inst_ne_dict
  have hdr : dr < tkA := lt₈ _ Rb₇.h2
  refine wpAny_execs_cons (r_setstate (st_fn _ .doctype) F₉ X₁ D₉ (RB.mk (mem_setO (.tail _ Rb₇.h1) r5) (setO_self (.tail _ Rb₇.h2))) hs₇ fun h₁₀ tk₁₀ mu F₁₀ lt₁₀ D₁₀ => ?_)
  refine wpAny_execs_cons (wpAny_Return_some (wpAny_Constant_bool ?_))
  dsimp only
  have lift9 : ∀ z ∈ l₇, z.1 ≠ dr → z ∈ setO dr (dictOf (rE w.params T b.st lf stv (.ref tkA) q) nr) ((tkA, ot) :: l₇) := fun z hz ne => mem_setO (.tail _ hz) ne
  have lift : ∀ z ∈ l₇, z.1 ≠ dr → z ∈ setO dr (dictOf (rE w.params T b.st lf (.ref mu) (.ref tkA) q) nr) ((mu, methodObj (.ref DS.doctype.fn) (.ref r)) :: setO dr (dictOf (rE w.params T b.st lf stv (.ref tkA) q) nr) ((tkA, ot) :: l₇)) :=
    fun z hz ne => mem_setO (.tail _ (lift9 z hz ne)) ne
  have hmu9 : ∀ z ∈ l₇, z.1 ≠ dr → z.1 < mu := fun z hz ne => lt₁₀ _ (lift9 z hz ne)
  have hdrmu : dr < mu := lt₁₀ (dr, dictOf (rE w.params T b.st lf stv (.ref tkA) q) nr) (setO_self (.tail _ Rb₇.h2))
  have htkmu : tkA < mu := lt₁₀ (tkA, ot) (mem_setO (.head _) (Ne.symm (Nat.ne_of_lt hdr)))
  have tks : ∀ z ∈ l₇, z.1 ≠ tkA := fun z hz => Nat.ne_of_lt (lt₈ z hz)
  have q1 : q ≠ b.sd := nodup_ne D.nd hq B.S.h2 list_ne_dict
  have q2 : q ≠ b.td := nodup_ne D.nd hq B.h2 list_ne_dict
  have q3 : q ≠ dr := nodup_ne D.nd hq Rb.h2 list_ne_dict
  have hq7 : (q, PySem.W.listOf #[] nq) ∈ l₇ := keep7 _ hq q1 q2
  have s1 : b.sd ≠ dr := Ne.symm r3
  have s2 : b.st ≠ dr := nodup_ne D.nd B.S.h1 Rb.h2 inst_ne_dict
  have s4 : b.tx ≠ dr := nodup_ne D.nd B.h1 Rb.h2 inst_ne_dict
  have s5 : b.mu ≠ dr := nodup_ne D.nd B.hmu Rb.h2 meth_ne_dict
  have hM := M.off
  obtain ⟨c, z, dd, rest', hb, D', hk⟩ := begun_of (b := b) (k := k) (r := r) (q := q) (rr := rr) (v := v) D₁₀ hx (setO_self (.tail _ (setO_self (.tail _ Rb₇.h2)))) (lift _ M.B.S.h2 s1) (lift _ hq7 q3)
    (mem_setO (.tail _ (mem_setO (.head _) (Ne.symm (Nat.ne_of_lt hdr)))) (Ne.symm (Nat.ne_of_lt hdr))) (lift _ Rb₇.h1 r5) (lift _ M.B.S.h1 s2) (mem_setO (.head _) (Ne.symm (Nat.ne_of_lt hdrmu)))
    (lift _ M.B.h1 s4) (lift _ M.B.h2 (Ne.symm r4)) (lift _ M.B.hmu s5) (Ne.symm (Nat.ne_of_lt hdr)) (Ne.symm (tks _ M.B.S.h2)) (Ne.symm (tks _ hq7)) (Ne.symm (tks _ Rb₇.h1)) (Ne.symm (tks _ M.B.S.h1)) (Ne.symm (tks _ M.B.h2)) (Nat.ne_of_gt htkmu) (Ne.symm (tks _ M.B.h1)) (Ne.symm (tks _ M.B.hmu))
    M.B.tx M.B.rce M.B.bc M.B.pls M.B.pcs M.chunk M.size hM hch hot
  refine leaveK_ F₁₀ D'.N fun F₁₁ N₁₁ => hR c z dd rest' _ _ hb F₁₁ ⟨N₁₁, D'.nd⟩ fun z hz n1 n2 n3 n4 n5 n6 => hk z (lift z (keep7 z hz n1 n2) n3) n1 n3 n4 n5 n6 (tks z (keep7 z hz n1 n2))
end
end
end Mine
end
-- part MH
section
open PySem PySem.W PySem.Calls PyProof.Rows
set_option Elab.async false
set_option maxRecDepth 100000
set_option maxHeartbeats 4000000
namespace Mine
noncomputable section
noncomputable def tokFn (l : List Tok) (i : Nat) : Tok := l.getD i 0
theorem not_mem_allLt {d : Addr} : ∀ {l : List (Addr × Obj)}, AllLt d l → d ∉ l.map (·.1)
  | [], _ => by simp
  | p :: l, h => by
    have h1 : p.1 < d := h.1
    simp only [List.map_cons, List.mem_cons, not_or]
    exact ⟨Ne.symm (Nat.ne_of_lt h1), not_mem_allLt h.2⟩
/-- the reader's dict before the queue is set -/
noncomputable def rE7 (P : Params) (T : Nat → Tok) (st : Addr) (lf stv cur : Value) : List DictEntry :=
  [ent P "stream" (T 0) (.ref st), ent P "parser" (T 1) .none, ent P "escapeFlag" (T 2) (.bool false), ent P "lastFourChars" (T 3) lf, ent P "state" (T 4) stv, ent P "escape" (T 5) (.bool false), ent P "currentToken" (T 6) cur]
theorem not_mem_cons' {a b : Addr} {l : List Addr} (h1 : a ≠ b) (h2 : a ∉ l) : a ∉ b :: l := fun h => (List.mem_cons.mp h).elim h1 h2
theorem nodup_cons' {a : Addr} {l : List Addr} (h1 : a ∉ l) (h2 : l.Nodup) : (a :: l).Nodup := List.nodup_cons.mpr ⟨h1, h2⟩
theorem not_mem_low {a d0 : Nat} {l : List (Addr × Obj)} (h : ∀ p ∈ l, p.1 < d0) (hle : d0 ≤ a) : a ∉ l.map (·.1) := fun q => by
  obtain ⟨p, hp, e⟩ := List.mem_map.mp q
  have := h p hp
  rw [e] at this
  exact absurd this (Nat.not_lt.mpr hle)
end
end Mine
end
-- part MN
section
open PySem PySem.W PySem.Calls PyProof.Rows
set_option Elab.async false
set_option maxRecDepth 100000
namespace Mine
noncomputable section
section
variable {prog : Program} {w : World} {A : Around} {E : Value → Shared → Prop} {s : Shared} {h₀ : Heap} {L a : Addr} {m : Str → Option Value} {l : List (Addr × Obj)}
  {R : Result → Shared → Prop} {p : Program} {loose : List Str} {mg mb : Str → Option Value} {cn : Str} {cs : Scope} {cd : Value} {b : Bx} {d : SD} {n : Nat} {pl : Int} {u : Tok} {k : Nat} {r dr q : Addr} {T : Nat → Tok} {lf stv cur : Value} {nr nq : Nat}

set_option maxHeartbeats 1000000 in
/-- dataState at the text's end -/
theorem data_eof (hA : Room A 6) (F : Fr h₀ L s.heap m) (D : Ld h₀ L s.heap l) (X : (Mine.hd.heap_1 w.params).In h₀) (T₀ : TopRead p loose mg mb h₀) (hx : b.x.length ≤ 10000)
    (B : SB w.params l b d n b.x.length u k) (h0 : d.size ≤ d.off) (Rb : RB w.params l r dr b.st q T lf stv cur nr)
    (hR : ∀ h' tk, Fr h₀ L h' m → R (.ok (.ret (.bool false))) { s with heap := h', toks := tk }) :
    codeAny (model prog w) A (.call (.ref 304) ⟨[.ref r], []⟩) R s := by
  refine call_M (binds := [("self", .ref r)]) hA.lt F D.N X T₀ (f := 304) (by k_is) (by k_is) (BindsTo.of_eq rfl) (locs rfl) (fun g L' h₁ F₁ N₁ X₁ T₁ lt => ?_) (by decide)
  have hA' := hA.deeper (env := envOf "HTMLTokenizer.dataState" { kind := .function, names := [("self", .local), ("data", .local), ("chars", .local), ("tokenTypes", .globalImplicit), ("EOF", .globalImplicit), ("spaceCharacters", .globalImplicit)], isGenerator := false, isCoroutine := false } L' 304 (.ref 303))
  have D₁ : Ld g L' h₁ l := ⟨N₁, D.nd⟩
  refine wpAny_execs_cons (wpAny_Assign_Name ?_)
  refine e_char F₁ X₁ D₁ Rb B.S rfl ?_
  refine char_eof hA' F₁ D₁ X₁ T₁ hx B h0 fun d₂ v tq tup h₂ tk₂ ek es eo F₂ D₂ B₂ => ?_
  refine stN F₂ D₂.N fun h₃ F₃ N₃ => ?_
  refine wpAny_execs_cons (wpAny_If (wpAny_isTrue_Compare1 (ld F₃ (if_pos rfl) (wpAny_Constant_str (EqNone.eq_none_str (wpAny_truthy_bool ?_))))))
  refine ite_f rfl ?_
  refine wpAny_execs_cons (wpAny_If (wpAny_isTrue_Compare1 (ld F₃ (if_pos rfl) (wpAny_Constant_str (EqNone.eq_none_str (wpAny_truthy_bool ?_))))))
  refine ite_f rfl ?_
  refine wpAny_execs_cons (wpAny_If (wpAny_isTrue_Compare1 (ld F₃ (if_pos rfl) (wpAny_Constant_str (EqNone.eq_none_str (wpAny_truthy_bool ?_))))))
  refine ite_f rfl ?_
  refine wpAny_execs_cons (wpAny_If (wpAny_isTrue_Compare1 (ld F₃ (if_pos rfl) (name_K F₃ X₁ T₁ g_eof (PyProof.Rows.is_none_none (wpAny_truthy_bool ?_))))))
  refine ite_t rfl ?_
  refine wpAny_execs_cons (wpAny_Return_some (wpAny_Constant_bool ?_))
  exact leaveK_ F₃ N₃ fun F₆ N₆ => hR _ _ F₆
end
end
end Mine
end
-- part MO
section
open PySem PySem.W PySem.Calls PyProof.Rows
set_option Elab.async false
set_option maxRecDepth 100000
namespace Mine
noncomputable section
section
variable {prog : Program} {w : World} {A : Around} {E : Value → Shared → Prop} {s : Shared} {h₀ : Heap} {L a : Addr} {m : Str → Option Value} {l : List (Addr × Obj)}
  {R : Result → Shared → Prop} {p : Program} {loose : List Str} {mg mb : Str → Option Value} {cn : Str} {cs : Scope} {cd : Value} {st sd : Addr} {TS : Nat → Tok} {d : SD} {n : Nat}

/-- while end != self.chunkSize and (self.chunk[end] in ()) == False: end += 1 -/
theorem until_loop {tp : Addr} {i : Int} {ti : Tok} {Q : Flow → Shared → Prop} {p1 p2 p3 p4 p5 p6 p7 p8 p9 p10 p11 p12 p13 p14 p15 p16 p17 : Pos} {kk : Nat} (F : Fr h₀ L s.heap m) (X : (Mine.hd.heap_1 w.params).In h₀) (D : Ld h₀ L s.heap l) (S : SL w.params l st sd TS d n)
    (htp : (tp, ({ cls := .type "tuple", data := .seq ([] : List Value).toArray } : Obj)) ∈ l) (hs : m "self" = some (.ref st)) (hc : m "characters" = some (.ref tp)) (ho : m "opposite" = some (.bool false)) (he : m "end" = some (.int i ti))
    (h0 : 0 ≤ i) (hi : i ≤ d.size) (hsz : d.size = d.chunk.length) (hmax : d.chunk.length ≤ 9000)
    (done : ∀ h' tk m' tj, Fr h₀ L h' m' → Ld h₀ L h' l → (∀ y : Str, y ≠ "end" → m' y = m y) → m' "end" = some (.int d.size tj) → Q .next { s with heap := h', toks := tk })
    (hk : cs.kind = .function := by rfl) (k1 : (envOf cn cs L a cd).kindOf "self" = some .local := by rfl) (k2 : (envOf cn cs L a cd).kindOf "characters" = some .local := by rfl) (k3 : (envOf cn cs L a cd).kindOf "opposite" = some .local := by rfl) (k4 : (envOf cn cs L a cd).kindOf "end" = some .local := by rfl) :
    wpAny (model prog w) A (exec (.While (.BoolOp .And [.Compare (.Name "end" p1) [.NotEq] [.Attribute (.Name "self" p2) "chunkSize" p3] p4,
      .Compare (.Compare (.Subscript (.Attribute (.Name "self" p5) "chunk" p6) (.Name "end" p7) p8) [.In] [.Name "characters" p9] p10) [.Eq] [.Name "opposite" p11] p12] p13) [.AugAssign (.Name "end" p14) .Add (.Constant (.int 1) kk p15) p16] [] p17) (envOf cn cs L a cd)) Q E s := by
  refine wpAny_While (codeAny_whileLoop (fun k s' => ∃ h' tk m' j tj, s' = { s with heap := h', toks := tk } ∧ Fr h₀ L h' m' ∧ Ld h₀ L h' l ∧ (∀ y : Str, y ≠ "end" → m' y = m y) ∧ m' "end" = some (.int j tj) ∧ 0 ≤ j ∧ j ≤ d.size ∧ k = (d.size - j).toNat) ?_ _ ⟨s.heap, s.toks, m, i, ti, rfl, F, D, fun _ _ => rfl, he, h0, hi, rfl⟩)
  rintro k s' ⟨h', tk, m', j, tj, rfl, F', D', hm, he', hj0, hj, rfl⟩
  have es := hm "self" (by decide)
  have ec := hm "characters" (by decide)
  have eo := hm "opposite" (by decide)
  refine isTrue_and (wpAny_isTrue_Compare1 (ld F' he' (s_size F' X D'.N (es.trans hs) S.h1 S.h2 (PyProof.Rows.ne_int (wpAny_truthy_bool ?_)) hk k1) hk k4))
  refine bool_if (fun hne => ?_) (fun heq => ?_)
  · have hlt : j < d.size := by
      have := bne_iff_ne.mp hne
      omega
    have hjl : j.toNat < d.chunk.cps.size := by
      have : (d.chunk.cps.size : Int) = d.size := hsz.symm
      omega
    refine isTrue_and (wpAny_isTrue_Compare1 (wpAny_Compare1 (Subscript_ (s_chunk F' X D'.N (es.trans hs) S.h1 S.h2 (ld F' he' ?_ hk k4) hk k1))))
    refine str_item (c := d.chunk.cps[j.toNat]) hj0 (by omega) (by simp [hjl]) ?_
    refine ld F' (ec.trans hc) (in_tuple_strs (ys := []) (News.isTup D'.N htp) .nil ?_) hk k2
    refine ld F' (eo.trans ho) (PyProof.Rows.eq_bool (wpAny_truthy_bool ?_)) hk k3
    refine ite_t rfl ?_
    refine isTrue_and_nil ?_
    rw [if_pos rfl]
    refine wpAny_execs_cons (wpAny_AugAssign_Name (wpAny_loadName_local hk k4 F'.ns he' (wpAny_Constant_int (PyProof.Rows.iadd_int (stN F' D'.N (fun h₂ F₂ N₂ => ?_) hk k4)))))
    refine wpAny_execs_nil ?_
    refine ⟨_, by show (d.size - (j + 1)).toNat < _; omega, h₂, _, _, j + 1, _, rfl, F₂, ⟨N₂, D'.nd⟩, fun y hy => ?_, if_pos rfl, by omega, by omega, rfl⟩
    show (if y = "end" then _ else _) = _
    rw [if_neg hy]; exact hm y hy
  · have hjs : j = d.size := by
      have : ¬ (j ≠ d.size) := fun q => by rw [bne_iff_ne.mpr q] at heq; cases heq
      omega
    rw [if_neg Bool.false_ne_true]
    refine wpAny_execs_nil ?_
    subst hjs
    exact done _ _ _ _ F' D' hm he'
end
end
end Mine
end
-- part MP
section
open PySem PySem.W PySem.Calls PyProof.Rows
set_option Elab.async false
set_option maxRecDepth 100000
namespace Mine
noncomputable section
section
variable {prog : Program} {w : World} {A : Around} {E : Value → Shared → Prop} {s : Shared} {h₀ : Heap} {L a : Addr} {m : Str → Option Value} {l : List (Addr × Obj)}
  {R : Result → Shared → Prop} {p : Program} {loose : List Str} {mg mb : Str → Option Value} {cn : Str} {cs : Scope} {cd : Value} {b : Bx} {d : SD} {n : Nat} {u : Tok} {k : Nat}

set_option maxHeartbeats 1000000 in
/-- rv.append(self.chunk[self.chunkOffset:]); if not self.readChunk(): break -/
theorem until_tail {rvA : Addr} {o : Nat} {Q : Flow → Shared → Prop} {p1 p2 p3 p4 p5 p6 p7 p8 p9 p10 p12 p13 p14 p15 p16 p17 : Pos} (hA : Room A 4) (F : Fr h₀ L s.heap m) (D : Ld h₀ L s.heap l) (X : (Mine.hd.heap_1 w.params).In h₀) (T₀ : TopRead p loose mg mb h₀) (hx : b.x.length ≤ 9000)
    (B : SB w.params l b d n b.x.length u k) (hrv : (rvA, PySem.W.listOf ([] : List Value).toArray 0) ∈ l) (hs : m "self" = some (.ref b.st)) (hr : m "rv" = some (.ref rvA)) (hoff : d.off = (o : Int)) (ho : o ≤ d.chunk.length) (hmax : d.chunk.length ≤ 9000)
    (done : ∀ t d' v h' tk l', Fr h₀ L h' m → Ld h₀ L h' l' → SB w.params l' b d' n b.x.length v k → d'.size ≤ d'.off → (rvA, PySem.W.listOf #[.str ⟨(d.chunk.cps.toList.drop o).toArray⟩ t] 1) ∈ l' → (∀ z ∈ l, z.1 ≠ b.sd → z.1 ≠ b.td → z.1 ≠ rvA → z ∈ l') → Q .brk { s with heap := h', toks := tk })
    (hk : cs.kind = .function := by rfl) (k1 : (envOf cn cs L a cd).kindOf "self" = some .local := by rfl) (k2 : (envOf cn cs L a cd).kindOf "rv" = some .local := by rfl) (hp : (p2.endLine == p3.line) = true := by rfl) (hp2 : (p13.endLine == p14.line) = true := by rfl) :
    wpAny (model prog w) A (execs [.Expr (.Call (.Attribute (.Name "rv" p1) "append" p2) [.Subscript (.Attribute (.Name "self" p5) "chunk" p6) (.Slice (some (.Attribute (.Name "self" p7) "chunkOffset" p8)) none none p9) p10] [] p3) p4,
      .If (.UnaryOp .Not (.Call (.Attribute (.Name "self" p12) "readChunk" p13) [] [] p14) p15) [.Break p16] [] p17] (envOf cn cs L a cd)) Q E s := by
  obtain ⟨a1, ua1, hpl⟩ := B.pls
  obtain ⟨a2, ua2, hpc⟩ := B.pcs
  have n1 : rvA ≠ b.sd := nodup_ne D.nd hrv B.S.h2 list_ne_dict
  have n2 : rvA ≠ b.td := nodup_ne D.nd hrv B.h2 list_ne_dict
  refine wpAny_execs_cons (op_app F D hr hrv ?_ rfl hp hk k2)
  refine Subscript_ (s_chunk F X D.N hs B.S.h1 B.S.h2 ?_ hk k1)
  refine wpAny_Slice (evalPart_some_step (s_off F X D.N hs B.S.h1 B.S.h2 ?_ hk k1))
  refine evalPart_none_step (evalPart_none_step ?_)
  refine slice_strN_sn (hsz := by rw [sizeLine_eq]; omega) (s := ⟨_, _, _, _, _⟩) F D.N (fun h₂ t₂ k₂ F₂ N₂ => ?_)
  rw [hoff, slice_from ho]
  refine ⟨l, m, _, 0, F₂, ⟨N₂, D.nd⟩, hrv, by decide, fun h₃ F₃ D₃ => ?_⟩
  have B₃ : SB w.params (setO rvA (PySem.W.listOf (([] : List Value).toArray.push (.str ⟨(d.chunk.cps.toList.drop o).toArray⟩ t₂)) (0 + 1)) l) b d n b.x.length u k := B.other D.nd hrv list_ne_inst list_ne_inst (fun _ _ => list_ne_dict) (fun _ _ _ => list_ne_dict) list_ne_meth
  refine wpAny_execs_cons (wpAny_If (isTrue_not (isTrue_plain (MCallN (fun pl => ld F₃ hs ?_ hk k1) rfl hp2))))
  refine method_inst F₃ X (InstAt.of_news D₃.N B₃.S.h1 B₃.S.h2) (cs_get _) cs_mread fn_rc (sE_mread _ _ _) ?_
  refine callWith_K0 (X.keeps F₃.keep) kp_rc (wpAny_call ?_)
  refine rc_false hA F₃ D₃ X T₀ B₃.S hpl hpc B₃.tx B₃.h1 B₃.h2 (by omega) B₃.bc (fun y hy => by rw [hy]; exact slice_end (Int.le_refl _) (by omega)) fun x' y' t t' u0 u1 u2 q tup v h₄ tk₄ F₄ D₄ => ?_
  refine wpAny_truthy_bool ?_
  refine ite_t rfl ?_
  refine wpAny_execs_cons (wpAny_Break ?_)
  have ndq : ((setO rvA (PySem.W.listOf (([] : List Value).toArray.push (.str ⟨(d.chunk.cps.toList.drop o).toArray⟩ t₂)) (0 + 1)) l ++ [(q, tup)]).map (·.1)).Nodup := by
    have := D₄.nd
    rw [setO_fst, setO_fst] at this
    exact this
  refine done t₂ (rcD d x' y' t t' u0 u1 u2) v h₄ tk₄ _ F₄ D₄ (((B₃.mono (l' := _ ++ [(q, tup)]) fun z hz => List.mem_append_left _ hz).set ndq (d' := rcD d x' y' t t' u0 u1 u2) (n' := n) rfl rfl rfl ⟨_, _, rfl⟩ ⟨_, _, rfl⟩).setT (setO_nd ndq) _ v k) (Int.le_refl _)
    (mem_setO (mem_setO (List.mem_append_left _ (setO_self hrv)) n1) n2) (fun z hz m1 m2 m3 => mem_setO (mem_setO (List.mem_append_left _ (mem_setO hz m3)) m1) m2)

set_option maxHeartbeats 2000000 in
theorem until_in {tp : Addr} {o : Nat} (hA : Room A 5) (F : Fr h₀ L s.heap m) (D : Ld h₀ L s.heap l) (X : (Mine.hd.heap_1 w.params).In h₀) (T₀ : TopRead p loose mg mb h₀) (hx : b.x.length ≤ 9000)
    (B : SB w.params l b d n b.x.length u k) (htp : (tp, ({ cls := .type "tuple", data := .seq ([] : List Value).toArray } : Obj)) ∈ l) (hoff : d.off = (o : Int)) (ho : o ≤ d.chunk.length) (hsz : d.size = d.chunk.length) (hmax : d.chunk.length ≤ 9000)
    (hR : ∀ t d' v h' tk l', Fr h₀ L h' m → Ld h₀ L h' l' → SB w.params l' b d' n b.x.length v k → d'.size ≤ d'.off → (∀ z ∈ l, z.1 ≠ b.sd → z.1 ≠ b.td → z ∈ l') → R (.ok (.ret (.str ⟨(d.chunk.cps.toList.drop o).toArray⟩ t))) { s with heap := h', toks := tk }) :
    codeAny (model prog w) A (.call (.ref 156) ⟨[.ref b.st, .ref tp], []⟩) R s := by
  refine call_M hA.lt F D.N X T₀ (f := 156) (by k_is) (by k_is) (binds_K (X.keeps F.keep) rfl (by k_is) rfl rfl rfl) (locs rfl) (fun g L' h₁ F₁ N₁ X₁ T₁ lt => ?_) (by decide)
  have hA' := hA.deeper (env := envOf "HTMLUnicodeInputStream.charsUntil" { kind := .function, names := [("self", .local), ("characters", .local), ("opposite", .local), ("rv", .local), ("end", .local), ("r", .local)], isGenerator := false, isCoroutine := false } L' 156 (.ref 155))
  have D₁ : Ld g L' h₁ l := ⟨N₁, D.nd⟩
  refine wpAny_execs_cons (wpAny_Assign_Name (List_ (wpAny_items_nil ?_)))
  refine newList_ld F₁ D₁ (fun rvA h₂ F₂ D₂ => ?_) (by show 0 ≤ sizeLine; decide)
  refine stN F₂ D₂.N fun h₃ F₃ N₃ => ?_
  have D₃ : Ld g L' h₃ _ := ⟨N₃, D₂.nd⟩
  have B₃ := B.mono (l' := l ++ [(rvA, PySem.W.listOf ([] : List Value).toArray 0)]) fun z hz => List.mem_append_left _ hz
  refine wpAny_execs_cons (wpAny_While (codeAny_whileLoop (fun k' s' => s' = { s with heap := h₃, toks := s'.toks }) ?_ 0 rfl))
  rintro k' s' hs'
  rw [hs']
  refine isTrue_plain (wpAny_Constant_bool (wpAny_truthy_bool ?_))
  refine ite_t rfl ?_
  refine wpAny_execs_cons (wpAny_Assign_Name (s_off F₃ X₁ N₃ rfl B₃.S.h1 B₃.S.h2 (stN F₃ N₃ fun h₄ F₄ N₄ => ?_)))
  have D₄ : Ld g L' h₄ _ := ⟨N₄, D₂.nd⟩
  refine wpAny_execs_cons ?_
  refine until_loop (i := d.off) F₄ X₁ D₄ B₃.S (List.mem_append_left _ htp) rfl rfl rfl (if_pos rfl) (by omega) (by omega) hsz hmax (fun h₅ tk₅ m₅ tj F₅ D₅ hm he => ?_) rfl rfl rfl rfl rfl
  have hself : m₅ "self" = some (.ref b.st) := (hm _ (by decide)).trans rfl
  have hrv : m₅ "rv" = some (.ref rvA) := (hm _ (by decide)).trans rfl
  have hjl : ([(⟨(d.chunk.cps.toList.drop o).toArray⟩ : Str)].map (·.length)).sum + [(⟨(d.chunk.cps.toList.drop o).toArray⟩ : Str)].length * (Str.ofString "").length ≤ 16777216 := by
    have e : (⟨(d.chunk.cps.toList.drop o).toArray⟩ : Str).length ≤ d.chunk.length := by simp [Str.length]
    have e0 : (Str.ofString "").length = 0 := rfl
    rw [e0]
    simp only [List.map_cons, List.map_nil, List.sum_cons, List.sum_nil, Nat.mul_zero, Nat.add_zero]
    omega
  refine wpAny_execs_cons (wpAny_If (wpAny_isTrue_Compare1 (ld F₅ he (s_off F₅ X₁ D₅.N hself B₃.S.h1 B₃.S.h2 (PyProof.Rows.eq_int (wpAny_truthy_bool ?_))))))
  refine bool_if (fun hq1 => ?_) (fun hq1 => ?_)
  · refine wpAny_execs_cons (wpAny_If (wpAny_isTrue_Compare1 (s_off F₅ X₁ D₅.N hself B₃.S.h1 B₃.S.h2 (s_size F₅ X₁ D₅.N hself B₃.S.h1 B₃.S.h2 (PyProof.Rows.ne_int (wpAny_truthy_bool ?_))))))
    have e1 : (d.off != d.size) = false := by
      have := beq_iff_eq.mp hq1
      rw [this]; simp
    refine ite_f e1 ?_
    refine wpAny_execs_nil (wpAny_execs_nil ?_)
    refine until_tail (o := o) (hA'.le (by decide)) F₅ D₅ X₁ T₁ hx B₃ (List.mem_append_right _ (.head _)) hself hrv hoff ho hmax (fun t d' v h₆ tk₆ l₆ F₆ D₆ B₆ hz6 hr6 keep => ?_) rfl rfl rfl rfl rfl
    refine wpAny_execs_cons (wpAny_Assign_Name ?_)
    refine MCallC ?b1 ?b2
    case b2 => rfl
    intro pl pq
    refine wpAny_Constant_str ?_
    with_reducible refine GM.join ?_
    refine callWith_b1 (ld F₆ hrv ?_)
    refine PyProof.Rows.join_list (News.isList D₆.N hr6) (.cons _ _ .nil) hjl ?_
    intro t' k'
    rw [show Txt.join (Str.ofString "") [(⟨(d.chunk.cps.toList.drop o).toArray⟩ : Str)] = ⟨(d.chunk.cps.toList.drop o).toArray⟩ from rfl]
    refine stN F₆ D₆.N fun h₇ F₇ N₇ => ?_
    refine wpAny_execs_cons (wpAny_Return_some (ld F₇ (if_pos rfl) ?_))
    exact leaveK_ F₇ N₇ fun F₈ N₈ => hR _ _ _ _ _ _ F₈ ⟨N₈, D₆.nd⟩ B₆ hz6 fun z hz m1 m2 => keep z (List.mem_append_left _ hz) m1 m2 (nd_snoc_ne D₂.nd hz)
  · refine wpAny_execs_cons (wpAny_If (wpAny_isTrue_Compare1 (ld F₅ he (s_size F₅ X₁ D₅.N hself B₃.S.h1 B₃.S.h2 (PyProof.Rows.ne_int (wpAny_truthy_bool ?_))))))
    refine ite_f (by simp) ?_
    refine wpAny_execs_nil (wpAny_execs_nil ?_)
    refine until_tail (o := o) (hA'.le (by decide)) F₅ D₅ X₁ T₁ hx B₃ (List.mem_append_right _ (.head _)) hself hrv hoff ho hmax (fun t d' v h₆ tk₆ l₆ F₆ D₆ B₆ hz6 hr6 keep => ?_) rfl rfl rfl rfl rfl
    refine wpAny_execs_cons (wpAny_Assign_Name ?_)
    refine MCallC ?c1 ?c2
    case c2 => rfl
    intro pl pq
    refine wpAny_Constant_str ?_
    with_reducible refine GM.join ?_
    refine callWith_b1 (ld F₆ hrv ?_)
    refine PyProof.Rows.join_list (News.isList D₆.N hr6) (.cons _ _ .nil) hjl ?_
    intro t' k'
    rw [show Txt.join (Str.ofString "") [(⟨(d.chunk.cps.toList.drop o).toArray⟩ : Str)] = ⟨(d.chunk.cps.toList.drop o).toArray⟩ from rfl]
    refine stN F₆ D₆.N fun h₇ F₇ N₇ => ?_
    refine wpAny_execs_cons (wpAny_Return_some (ld F₇ (if_pos rfl) ?_))
    exact leaveK_ F₇ N₇ fun F₈ N₈ => hR _ _ _ _ _ _ F₈ ⟨N₈, D₆.nd⟩ B₆ hz6 fun z hz m1 m2 => keep z (List.mem_append_left _ hz) m1 m2 (nd_snoc_ne D₂.nd hz)
end
end
end Mine
end
-- part LN
section
open PySem PySem.W PySem.Calls PyProof.Rows
set_option Elab.async false
set_option maxRecDepth 100000
set_option linter.unusedVariables false
namespace Mine
noncomputable section
section
variable {prog : Program} {w : World} {c : Cx} {z : SD} {r : List Nat} {nm : Str} {pb sy : Option Str} {ok : Bool} {fs : List Str}

theorem p_doctype_sp {ch : Nat} (h1 : isSp ch = true) : Run prog w c z ⟨.doctype, ch :: r, ⟨nm, pb, sy, ok⟩, fs, false⟩ ⟨.beforeName, r, ⟨nm, pb, sy, ok⟩, fs, false⟩ := by
  intro A s h₀ L m rest R p loose mg mb d hA F D X T₀ hz hr hq hR
  obtain ⟨hvs, e1, e2, e3, e4, e5, hzl, hnb, hpb, hsb, vals, q1, q2, t0, t1, v2, v3, ht, hp, hsy⟩ := hr.starts hz hq
  refine st_enter (f := 654) hA F D X T₀ hz hr.tx (by k_is) (by k_is) rfl rfl rfl (fun g L' h₁ tk₁ m' t u F hs hd D X T hA => ?_) (by decide)
  refine wpAny_execs_cons (if_yes (t_sp F D X T hd h1) fun h₂ tk₂ F D => ?_)
  refine wpAny_execs_cons (op_state (st_fn _ .beforeName) F X D hs fun h₃ tk₃ mu F D => ?_)
  refine wpAny_execs_nil ?_
  exact st_ret hR F D ⟨⟨mu, rfl, .head _⟩, hr.tx.step u, ⟨_, _, _, _, ht, hp, hsy⟩, ⟨_, q1.mono fun q hq => .tail _ hq, by simp only [q2] <;> rfl⟩, (by first | exact hnb | exact Nat.le_of_succ_le hnb | ((try dsimp only); (try simp only [List.length_cons]); omega)), fun y hy => by have := hpb y hy; first | exact this | exact Nat.le_of_succ_le this | ((try dsimp only); (try simp only [List.length_cons]); omega), fun y hy => by have := hsb y hy; first | exact this | exact Nat.le_of_succ_le this | ((try dsimp only); (try simp only [List.length_cons]); omega)⟩ (fun q hq => .tail _ hq) D.nd

theorem p_doctype_c {ch : Nat} (h1 : isSp ch = false) : Run prog w c z ⟨.doctype, ch :: r, ⟨nm, pb, sy, ok⟩, fs, false⟩ ⟨.beforeName, ch :: r, ⟨nm, pb, sy, ok⟩, fs ++ [Str.ofString "need-space-after-doctype"], false⟩ := by
  intro A s h₀ L m rest R p loose mg mb d hA F D X T₀ hz hr hq hR
  obtain ⟨hvs, e1, e2, e3, e4, e5, hzl, hnb, hpb, hsb, vals, q1, q2, t0, t1, v2, v3, ht, hp, hsy⟩ := hr.starts hz hq
  refine st_enter (f := 654) hA F D X T₀ hz hr.tx (by k_is) (by k_is) rfl rfl rfl (fun g L' h₁ tk₁ m' t u F hs hd D X T hA => ?_) (by decide)
  refine wpAny_execs_cons (if_no (t_sp F D X T hd h1) fun h₂ tk₂ F D => ?_)
  refine wpAny_execs_cons (if_no (t_eof F D X T hd) fun h₂ tk₂ F D => ?_)
  refine wpAny_execs_cons (op_err F X T D hs (Nat.le_trans hvs (by decide)) fun h₂ tk₂ b o F D he => ?_)
  have q1 := q1.push (b := b) he
  refine wpAny_execs_cons (op_unget (ch := ch) (hA.le (by decide)) F X T D hs hd (by show 0 < d.sd.off + 1; omega) (by show d.sd.off + 1 < _; omega) (by show d.sd.chunk.cps[(d.sd.off + 1 - 1).toNat]? = _; rw [Int.add_sub_cancel]; exact e5) fun h₂ tk₂ u' F D => ?_)
  refine wpAny_execs_cons (op_state (st_fn _ .beforeName) F X D hs fun h₃ tk₃ mu F D => ?_)
  refine wpAny_execs_nil ?_
  refine wpAny_execs_nil ?_
  exact st_ret hR F D ⟨⟨mu, rfl, .head _⟩, hr.tx.back u u', ⟨_, _, _, _, ht, hp, hsy⟩, ⟨_, q1.mono fun q hq => .tail _ hq, by simp only [q2] <;> rfl⟩, (by first | exact hnb | exact Nat.le_of_succ_le hnb | ((try dsimp only); (try simp only [List.length_cons]); omega)), fun y hy => by have := hpb y hy; first | exact this | exact Nat.le_of_succ_le this | ((try dsimp only); (try simp only [List.length_cons]); omega), fun y hy => by have := hsb y hy; first | exact this | exact Nat.le_of_succ_le this | ((try dsimp only); (try simp only [List.length_cons]); omega)⟩ (fun q hq => .tail _ (.tail _ hq)) D.nd

theorem p_beforeName_sp {ch : Nat} (h1 : isSp ch = true) : Run prog w c z ⟨.beforeName, ch :: r, ⟨nm, pb, sy, ok⟩, fs, false⟩ ⟨.beforeName, r, ⟨nm, pb, sy, ok⟩, fs, false⟩ := by
  intro A s h₀ L m rest R p loose mg mb d hA F D X T₀ hz hr hq hR
  obtain ⟨hvs, e1, e2, e3, e4, e5, hzl, hnb, hpb, hsb, vals, q1, q2, t0, t1, v2, v3, ht, hp, hsy⟩ := hr.starts hz hq
  refine st_enter (f := 661) hA F D X T₀ hz hr.tx (by k_is) (by k_is) rfl rfl rfl (fun g L' h₁ tk₁ m' t u F hs hd D X T hA => ?_) (by decide)
  refine wpAny_execs_cons (if_yes (t_sp F D X T hd h1) fun h₂ tk₂ F D => ?_)
  refine wpAny_execs_cons (wpAny_Pass ?_)
  refine wpAny_execs_nil ?_
  exact st_ret hR F D ⟨hr.st, hr.tx.step u, ⟨_, _, _, _, ht, hp, hsy⟩, ⟨_, q1, by simp only [q2] <;> rfl⟩, (by first | exact hnb | exact Nat.le_of_succ_le hnb | ((try dsimp only); (try simp only [List.length_cons]); omega)), fun y hy => by have := hpb y hy; first | exact this | exact Nat.le_of_succ_le this | ((try dsimp only); (try simp only [List.length_cons]); omega), fun y hy => by have := hsb y hy; first | exact this | exact Nat.le_of_succ_le this | ((try dsimp only); (try simp only [List.length_cons]); omega)⟩ (fun q hq => hq) D.nd

theorem p_beforeName_nul  : Run prog w c z ⟨.beforeName, 0 :: r, ⟨nm, pb, sy, ok⟩, fs, false⟩ ⟨.name, r, ⟨(one 65533), pb, sy, ok⟩, fs ++ [Str.ofString "invalid-codepoint"], false⟩ := by
  intro A s h₀ L m rest R p loose mg mb d hA F D X T₀ hz hr hq hR
  obtain ⟨hvs, e1, e2, e3, e4, e5, hzl, hnb, hpb, hsb, vals, q1, q2, t0, t1, v2, v3, ht, hp, hsy⟩ := hr.starts hz hq
  refine st_enter (f := 661) hA F D X T₀ hz hr.tx (by k_is) (by k_is) rfl rfl rfl (fun g L' h₁ tk₁ m' t u F hs hd D X T hA => ?_) (by decide)
  refine wpAny_execs_cons (if_no (t_sp F D X T hd (by rfl)) fun h₂ tk₂ F D => ?_)
  refine wpAny_execs_cons (if_no (t_eq F D hd (one_ne (by decide) rfl)) fun h₂ tk₂ F D => ?_)
  refine wpAny_execs_cons (if_yes (t_eq F D hd (one_yes rfl)) fun h₂ tk₂ F D => ?_)
  refine wpAny_execs_cons (op_err F X T D hs (Nat.le_trans hvs (by decide)) fun h₂ tk₂ b o F D he => ?_)
  have q1 := q1.push (b := b) he
  refine wpAny_execs_cons (op_tokstr F X D hs ht (tkl_len _ _ _ _ _) fun h₂ tk₂ o' tn F D ht => ?_)
  rw [tkl_sname] at ht
  rw [fffd] at ht
  refine wpAny_execs_cons (op_state (st_fn _ .name) F X D hs fun h₃ tk₃ mu F D => ?_)
  refine wpAny_execs_nil ?_
  refine wpAny_execs_nil ?_
  refine wpAny_execs_nil ?_
  exact st_ret hR F D ⟨⟨mu, rfl, .head _⟩, hr.tx.step u, ⟨_, _, _, _, ht, hp, hsy⟩, ⟨_, q1.mono fun q hq => .tail _ hq, by simp only [q2] <;> rfl⟩, by show 1 + r.length ≤ 9000; omega, fun y hy => by have := hpb y hy; first | exact this | exact Nat.le_of_succ_le this | ((try dsimp only); (try simp only [List.length_cons]); omega), fun y hy => by have := hsb y hy; first | exact this | exact Nat.le_of_succ_le this | ((try dsimp only); (try simp only [List.length_cons]); omega)⟩ (fun q hq => .tail _ (.tail _ hq)) D.nd

theorem p_beforeName_c {ch : Nat} (h1 : isSp ch = false) (n62 : ch ≠ 62) (n0 : ch ≠ 0) : Run prog w c z ⟨.beforeName, ch :: r, ⟨nm, pb, sy, ok⟩, fs, false⟩ ⟨.name, r, ⟨(one ch), pb, sy, ok⟩, fs, false⟩ := by
  intro A s h₀ L m rest R p loose mg mb d hA F D X T₀ hz hr hq hR
  obtain ⟨hvs, e1, e2, e3, e4, e5, hzl, hnb, hpb, hsb, vals, q1, q2, t0, t1, v2, v3, ht, hp, hsy⟩ := hr.starts hz hq
  refine st_enter (f := 661) hA F D X T₀ hz hr.tx (by k_is) (by k_is) rfl rfl rfl (fun g L' h₁ tk₁ m' t u F hs hd D X T hA => ?_) (by decide)
  refine wpAny_execs_cons (if_no (t_sp F D X T hd h1) fun h₂ tk₂ F D => ?_)
  refine wpAny_execs_cons (if_no (t_eq F D hd (one_ne n62 rfl)) fun h₂ tk₂ F D => ?_)
  refine wpAny_execs_cons (if_no (t_eq F D hd (one_ne n0 rfl)) fun h₂ tk₂ F D => ?_)
  refine wpAny_execs_cons (if_no (t_eof F D X T hd) fun h₂ tk₂ F D => ?_)
  refine wpAny_execs_cons (op_tokvar F X D hs hd ht (tkl_len _ _ _ _ _) fun h₂ tk₂ o' F D ht => ?_)
  rw [tkl_sname] at ht
  refine wpAny_execs_cons (op_state (st_fn _ .name) F X D hs fun h₃ tk₃ mu F D => ?_)
  refine wpAny_execs_nil ?_
  refine wpAny_execs_nil ?_
  refine wpAny_execs_nil ?_
  refine wpAny_execs_nil ?_
  exact st_ret hR F D ⟨⟨mu, rfl, .head _⟩, hr.tx.step u, ⟨_, _, _, _, ht, hp, hsy⟩, ⟨_, q1.mono fun q hq => .tail _ hq, by simp only [q2] <;> rfl⟩, by show 1 + r.length ≤ 9000; omega, fun y hy => by have := hpb y hy; first | exact this | exact Nat.le_of_succ_le this | ((try dsimp only); (try simp only [List.length_cons]); omega), fun y hy => by have := hsb y hy; first | exact this | exact Nat.le_of_succ_le this | ((try dsimp only); (try simp only [List.length_cons]); omega)⟩ (fun q hq => .tail _ hq) D.nd

theorem p_name_sp {ch : Nat} (h1 : isSp ch = true) : Run prog w c z ⟨.name, ch :: r, ⟨nm, pb, sy, ok⟩, fs, false⟩ ⟨.afterName, r, ⟨(lowS nm), pb, sy, ok⟩, fs, false⟩ := by
  intro A s h₀ L m rest R p loose mg mb d hA F D X T₀ hz hr hq hR
  obtain ⟨hvs, e1, e2, e3, e4, e5, hzl, hnb, hpb, hsb, vals, q1, q2, t0, t1, v2, v3, ht, hp, hsy⟩ := hr.starts hz hq
  refine st_enter (f := 668) hA F D X T₀ hz hr.tx (by k_is) (by k_is) rfl rfl rfl (fun g L' h₁ tk₁ m' t u F hs hd D X T hA => ?_) (by decide)
  refine wpAny_execs_cons (if_yes (t_sp F D X T hd h1) fun h₂ tk₂ F D => ?_)
  refine wpAny_execs_cons (op_lower hA F X T D hs ht (tkl_len _ _ _ _ _) (tkl_name _ _ _ _ _) (by omega) fun h₂ tk₂ o' tn F D ht => ?_)
  rw [tkl_sname] at ht
  refine wpAny_execs_cons (op_state (st_fn _ .afterName) F X D hs fun h₃ tk₃ mu F D => ?_)
  refine wpAny_execs_nil ?_
  exact st_ret hR F D ⟨⟨mu, rfl, .head _⟩, hr.tx.step u, ⟨_, _, _, _, ht, hp, hsy⟩, ⟨_, q1.mono fun q hq => .tail _ hq, by simp only [q2] <;> rfl⟩, by show (lowS nm).length + r.length ≤ 9000; rw [lowS_len]; omega, fun y hy => by have := hpb y hy; first | exact this | exact Nat.le_of_succ_le this | ((try dsimp only); (try simp only [List.length_cons]); omega), fun y hy => by have := hsb y hy; first | exact this | exact Nat.le_of_succ_le this | ((try dsimp only); (try simp only [List.length_cons]); omega)⟩ (fun q hq => .tail _ hq) D.nd

theorem p_name_nul  : Run prog w c z ⟨.name, 0 :: r, ⟨nm, pb, sy, ok⟩, fs, false⟩ ⟨.name, r, ⟨(nm ++ one 65533), pb, sy, ok⟩, fs ++ [Str.ofString "invalid-codepoint"], false⟩ := by
  intro A s h₀ L m rest R p loose mg mb d hA F D X T₀ hz hr hq hR
  obtain ⟨hvs, e1, e2, e3, e4, e5, hzl, hnb, hpb, hsb, vals, q1, q2, t0, t1, v2, v3, ht, hp, hsy⟩ := hr.starts hz hq
  refine st_enter (f := 668) hA F D X T₀ hz hr.tx (by k_is) (by k_is) rfl rfl rfl (fun g L' h₁ tk₁ m' t u F hs hd D X T hA => ?_) (by decide)
  refine wpAny_execs_cons (if_no (t_sp F D X T hd (by rfl)) fun h₂ tk₂ F D => ?_)
  refine wpAny_execs_cons (if_no (t_eq F D hd (one_ne (by decide) rfl)) fun h₂ tk₂ F D => ?_)
  refine wpAny_execs_cons (if_yes (t_eq F D hd (one_yes rfl)) fun h₂ tk₂ F D => ?_)
  refine wpAny_execs_cons (op_err F X T D hs (Nat.le_trans hvs (by decide)) fun h₂ tk₂ b o F D he => ?_)
  have q1 := q1.push (b := b) he
  refine wpAny_execs_cons (op_tokauglit F X D hs ht (tkl_len _ _ _ _ _) (tkl_name _ _ _ _ _) (by rw [fffd]; show _ + 1 ≤ _; omega) fun h₂ tk₂ o' tn F D ht => ?_)
  rw [tkl_sname] at ht
  rw [fffd] at ht
  refine wpAny_execs_cons (op_state (st_fn _ .name) F X D hs fun h₃ tk₃ mu F D => ?_)
  refine wpAny_execs_nil ?_
  refine wpAny_execs_nil ?_
  refine wpAny_execs_nil ?_
  exact st_ret hR F D ⟨⟨mu, rfl, .head _⟩, hr.tx.step u, ⟨_, _, _, _, ht, hp, hsy⟩, ⟨_, q1.mono fun q hq => .tail _ hq, by simp only [q2] <;> rfl⟩, by show _ + r.length ≤ 9000; rw [len_one]; omega, fun y hy => by have := hpb y hy; first | exact this | exact Nat.le_of_succ_le this | ((try dsimp only); (try simp only [List.length_cons]); omega), fun y hy => by have := hsb y hy; first | exact this | exact Nat.le_of_succ_le this | ((try dsimp only); (try simp only [List.length_cons]); omega)⟩ (fun q hq => .tail _ (.tail _ hq)) D.nd

theorem p_name_c {ch : Nat} (h1 : isSp ch = false) (n62 : ch ≠ 62) (n0 : ch ≠ 0) : Run prog w c z ⟨.name, ch :: r, ⟨nm, pb, sy, ok⟩, fs, false⟩ ⟨.name, r, ⟨(nm ++ one ch), pb, sy, ok⟩, fs, false⟩ := by
  intro A s h₀ L m rest R p loose mg mb d hA F D X T₀ hz hr hq hR
  obtain ⟨hvs, e1, e2, e3, e4, e5, hzl, hnb, hpb, hsb, vals, q1, q2, t0, t1, v2, v3, ht, hp, hsy⟩ := hr.starts hz hq
  refine st_enter (f := 668) hA F D X T₀ hz hr.tx (by k_is) (by k_is) rfl rfl rfl (fun g L' h₁ tk₁ m' t u F hs hd D X T hA => ?_) (by decide)
  refine wpAny_execs_cons (if_no (t_sp F D X T hd h1) fun h₂ tk₂ F D => ?_)
  refine wpAny_execs_cons (if_no (t_eq F D hd (one_ne n62 rfl)) fun h₂ tk₂ F D => ?_)
  refine wpAny_execs_cons (if_no (t_eq F D hd (one_ne n0 rfl)) fun h₂ tk₂ F D => ?_)
  refine wpAny_execs_cons (if_no (t_eof F D X T hd) fun h₂ tk₂ F D => ?_)
  refine wpAny_execs_cons (op_tokaugvar F X D hs hd ht (tkl_len _ _ _ _ _) (tkl_name _ _ _ _ _) (by show _ + 1 ≤ _; omega) fun h₂ tk₂ o' tn F D ht => ?_)
  rw [tkl_sname] at ht
  refine wpAny_execs_nil ?_
  refine wpAny_execs_nil ?_
  refine wpAny_execs_nil ?_
  refine wpAny_execs_nil ?_
  exact st_ret hR F D ⟨hr.st, hr.tx.step u, ⟨_, _, _, _, ht, hp, hsy⟩, ⟨_, q1, by simp only [q2] <;> rfl⟩, by show _ + r.length ≤ 9000; rw [len_one]; omega, fun y hy => by have := hpb y hy; first | exact this | exact Nat.le_of_succ_le this | ((try dsimp only); (try simp only [List.length_cons]); omega), fun y hy => by have := hsb y hy; first | exact this | exact Nat.le_of_succ_le this | ((try dsimp only); (try simp only [List.length_cons]); omega)⟩ (fun q hq => hq) D.nd

theorem p_afterName_sp {ch : Nat} (h1 : isSp ch = true) : Run prog w c z ⟨.afterName, ch :: r, ⟨nm, pb, sy, ok⟩, fs, false⟩ ⟨.afterName, r, ⟨nm, pb, sy, ok⟩, fs, false⟩ := by
  intro A s h₀ L m rest R p loose mg mb d hA F D X T₀ hz hr hq hR
  obtain ⟨hvs, e1, e2, e3, e4, e5, hzl, hnb, hpb, hsb, vals, q1, q2, t0, t1, v2, v3, ht, hp, hsy⟩ := hr.starts hz hq
  refine st_enter (f := 675) hA F D X T₀ hz hr.tx (by k_is) (by k_is) rfl rfl rfl (fun g L' h₁ tk₁ m' t u F hs hd D X T hA => ?_) (by decide)
  refine wpAny_execs_cons (if_yes (t_sp F D X T hd h1) fun h₂ tk₂ F D => ?_)
  refine wpAny_execs_cons (wpAny_Pass ?_)
  refine wpAny_execs_nil ?_
  exact st_ret hR F D ⟨hr.st, hr.tx.step u, ⟨_, _, _, _, ht, hp, hsy⟩, ⟨_, q1, by simp only [q2] <;> rfl⟩, (by first | exact hnb | exact Nat.le_of_succ_le hnb | ((try dsimp only); (try simp only [List.length_cons]); omega)), fun y hy => by have := hpb y hy; first | exact this | exact Nat.le_of_succ_le this | ((try dsimp only); (try simp only [List.length_cons]); omega), fun y hy => by have := hsb y hy; first | exact this | exact Nat.le_of_succ_le this | ((try dsimp only); (try simp only [List.length_cons]); omega)⟩ (fun q hq => hq) D.nd

theorem p_afterName_gt  : Run prog w c z ⟨.afterName, 62 :: r, ⟨nm, pb, sy, ok⟩, fs, false⟩ ⟨.data, r, ⟨nm, pb, sy, ok⟩, fs, true⟩ := by
  intro A s h₀ L m rest R p loose mg mb d hA F D X T₀ hz hr hq hR
  obtain ⟨hvs, e1, e2, e3, e4, e5, hzl, hnb, hpb, hsb, vals, q1, q2, t0, t1, v2, v3, ht, hp, hsy⟩ := hr.starts hz hq
  refine st_enter (f := 675) hA F D X T₀ hz hr.tx (by k_is) (by k_is) rfl rfl rfl (fun g L' h₁ tk₁ m' t u F hs hd D X T hA => ?_) (by decide)
  refine wpAny_execs_cons (if_no (t_sp F D X T hd (by rfl)) fun h₂ tk₂ F D => ?_)
  refine wpAny_execs_cons (if_yes (t_eq F D hd (one_yes rfl)) fun h₂ tk₂ F D => ?_)
  refine wpAny_execs_cons (op_emit F X D hs (Nat.le_trans hvs (by decide)) fun h₂ tk₂ F D => ?_)
  refine wpAny_execs_cons (op_state (st_fn _ .data) F X D hs fun h₃ tk₃ mu F D => ?_)
  refine wpAny_execs_nil ?_
  refine wpAny_execs_nil ?_
  exact st_ret hR F D ⟨⟨mu, rfl, .head _⟩, hr.tx.step u, ⟨_, _, _, _, ht, hp, hsy⟩, ⟨_, q1.mono fun q hq => .tail _ hq, by simp only [q2] <;> rfl⟩, (by first | exact hnb | exact Nat.le_of_succ_le hnb | ((try dsimp only); (try simp only [List.length_cons]); omega)), fun y hy => by have := hpb y hy; first | exact this | exact Nat.le_of_succ_le this | ((try dsimp only); (try simp only [List.length_cons]); omega), fun y hy => by have := hsb y hy; first | exact this | exact Nat.le_of_succ_le this | ((try dsimp only); (try simp only [List.length_cons]); omega)⟩ (fun q hq => .tail _ hq) D.nd

theorem p_afterName_c {ch : Nat} (h1 : isSp ch = false) (n62 : ch ≠ 62) (n112 : ch ≠ 112) (n80 : ch ≠ 80) (n115 : ch ≠ 115) (n83 : ch ≠ 83) : Run prog w c z ⟨.afterName, ch :: r, ⟨nm, pb, sy, ok⟩, fs, false⟩ ⟨.bogus, ch :: r, ⟨nm, pb, sy, false⟩, fs ++ [Str.ofString "expected-space-or-right-bracket-in-doctype"], false⟩ := by
  intro A s h₀ L m rest R p loose mg mb d hA F D X T₀ hz hr hq hR
  obtain ⟨hvs, e1, e2, e3, e4, e5, hzl, hnb, hpb, hsb, vals, q1, q2, t0, t1, v2, v3, ht, hp, hsy⟩ := hr.starts hz hq
  refine st_enter (f := 675) hA F D X T₀ hz hr.tx (by k_is) (by k_is) rfl rfl rfl (fun g L' h₁ tk₁ m' t u F hs hd D X T hA => ?_) (by decide)
  refine wpAny_execs_cons (if_no (t_sp F D X T hd h1) fun h₂ tk₂ F D => ?_)
  refine wpAny_execs_cons (if_no (t_eq F D hd (one_ne n62 rfl)) fun h₂ tk₂ F D => ?_)
  refine wpAny_execs_cons (if_no (t_eof F D X T hd) fun h₂ tk₂ F D => ?_)
  refine wpAny_execs_cons (if_no (t_in2 F D hd (two_ne n112 n80 rfl rfl)) fun h₂ tk₂ F D => ?_)
  refine wpAny_execs_cons (if_no (t_in2 F D hd (two_ne n115 n83 rfl rfl)) fun h₂ tk₂ F D => ?_)
  refine wpAny_execs_nil ?_
  refine wpAny_execs_nil ?_
  refine wpAny_execs_cons (op_unget (ch := ch) (hA.le (by decide)) F X T D hs hd (by show 0 < d.sd.off + 1; omega) (by show d.sd.off + 1 < _; omega) (by show d.sd.chunk.cps[(d.sd.off + 1 - 1).toNat]? = _; rw [Int.add_sub_cancel]; exact e5) fun h₂ tk₂ u' F D => ?_)
  refine wpAny_execs_cons (op_errd F X T D hs hd (Nat.le_trans hvs (by decide)) fun h₂ tk₂ b o y F D he => ?_)
  have q1 := (q1.push (b := b) he).mono (rest' := (b, o) :: y :: _) fun q hq => (List.mem_cons.mp hq).elim (fun e => e ▸ List.Mem.head _) fun hq => List.Mem.tail _ (List.Mem.tail _ hq)
  refine wpAny_execs_cons (op_tokbool F X D hs ht (tkl_len _ _ _ _ _) fun h₂ tk₂ o' F D ht => ?_)
  rw [tkl_sok] at ht
  refine wpAny_execs_cons (op_state (st_fn _ .bogus) F X D hs fun h₃ tk₃ mu F D => ?_)
  refine wpAny_execs_nil ?_
  refine wpAny_execs_nil ?_
  refine wpAny_execs_nil ?_
  exact st_ret hR F D ⟨⟨mu, rfl, .head _⟩, hr.tx.back u u', ⟨_, _, _, _, ht, hp, hsy⟩, ⟨_, q1.mono fun q hq => .tail _ hq, by simp only [q2] <;> rfl⟩, (by first | exact hnb | exact Nat.le_of_succ_le hnb | ((try dsimp only); (try simp only [List.length_cons]); omega)), fun y hy => by have := hpb y hy; first | exact this | exact Nat.le_of_succ_le this | ((try dsimp only); (try simp only [List.length_cons]); omega), fun y hy => by have := hsb y hy; first | exact this | exact Nat.le_of_succ_le this | ((try dsimp only); (try simp only [List.length_cons]); omega)⟩ (fun q hq => .tail _ (.tail _ (.tail _ hq))) D.nd

theorem p_afterPub_sp {ch : Nat} (h1 : isSp ch = true) : Run prog w c z ⟨.afterPub, ch :: r, ⟨nm, pb, sy, ok⟩, fs, false⟩ ⟨.beforePub, r, ⟨nm, pb, sy, ok⟩, fs, false⟩ := by
  intro A s h₀ L m rest R p loose mg mb d hA F D X T₀ hz hr hq hR
  obtain ⟨hvs, e1, e2, e3, e4, e5, hzl, hnb, hpb, hsb, vals, q1, q2, t0, t1, v2, v3, ht, hp, hsy⟩ := hr.starts hz hq
  refine st_enter (f := 682) hA F D X T₀ hz hr.tx (by k_is) (by k_is) rfl rfl rfl (fun g L' h₁ tk₁ m' t u F hs hd D X T hA => ?_) (by decide)
  refine wpAny_execs_cons (if_yes (t_sp F D X T hd h1) fun h₂ tk₂ F D => ?_)
  refine wpAny_execs_cons (op_state (st_fn _ .beforePub) F X D hs fun h₃ tk₃ mu F D => ?_)
  refine wpAny_execs_nil ?_
  exact st_ret hR F D ⟨⟨mu, rfl, .head _⟩, hr.tx.step u, ⟨_, _, _, _, ht, hp, hsy⟩, ⟨_, q1.mono fun q hq => .tail _ hq, by simp only [q2] <;> rfl⟩, (by first | exact hnb | exact Nat.le_of_succ_le hnb | ((try dsimp only); (try simp only [List.length_cons]); omega)), fun y hy => by have := hpb y hy; first | exact this | exact Nat.le_of_succ_le this | ((try dsimp only); (try simp only [List.length_cons]); omega), fun y hy => by have := hsb y hy; first | exact this | exact Nat.le_of_succ_le this | ((try dsimp only); (try simp only [List.length_cons]); omega)⟩ (fun q hq => .tail _ hq) D.nd

theorem p_afterPub_qu {ch : Nat} (hqu : ch = 39 ∨ ch = 34) : Run prog w c z ⟨.afterPub, ch :: r, ⟨nm, pb, sy, ok⟩, fs, false⟩ ⟨.beforePub, ch :: r, ⟨nm, pb, sy, ok⟩, fs ++ [Str.ofString "unexpected-char-in-doctype"], false⟩ := by
  intro A s h₀ L m rest R p loose mg mb d hA F D X T₀ hz hr hq hR
  obtain ⟨hvs, e1, e2, e3, e4, e5, hzl, hnb, hpb, hsb, vals, q1, q2, t0, t1, v2, v3, ht, hp, hsy⟩ := hr.starts hz hq
  refine st_enter (f := 682) hA F D X T₀ hz hr.tx (by k_is) (by k_is) rfl rfl rfl (fun g L' h₁ tk₁ m' t u F hs hd D X T hA => ?_) (by decide)
  have hnsp : isSp ch = false := by rcases hqu with rfl | rfl <;> rfl
  refine wpAny_execs_cons (if_no (t_sp F D X T hd hnsp) fun h₂ tk₂ F D => ?_)
  refine wpAny_execs_cons (if_yes (t_in2 F D hd (two_yes hqu)) fun h₂ tk₂ F D => ?_)
  refine wpAny_execs_cons (op_err F X T D hs (Nat.le_trans hvs (by decide)) fun h₂ tk₂ b o F D he => ?_)
  have q1 := q1.push (b := b) he
  refine wpAny_execs_cons (op_unget (ch := ch) (hA.le (by decide)) F X T D hs hd (by show 0 < d.sd.off + 1; omega) (by show d.sd.off + 1 < _; omega) (by show d.sd.chunk.cps[(d.sd.off + 1 - 1).toNat]? = _; rw [Int.add_sub_cancel]; exact e5) fun h₂ tk₂ u' F D => ?_)
  refine wpAny_execs_cons (op_state (st_fn _ .beforePub) F X D hs fun h₃ tk₃ mu F D => ?_)
  refine wpAny_execs_nil ?_
  refine wpAny_execs_nil ?_
  exact st_ret hR F D ⟨⟨mu, rfl, .head _⟩, hr.tx.back u u', ⟨_, _, _, _, ht, hp, hsy⟩, ⟨_, q1.mono fun q hq => .tail _ hq, by simp only [q2] <;> rfl⟩, (by first | exact hnb | exact Nat.le_of_succ_le hnb | ((try dsimp only); (try simp only [List.length_cons]); omega)), fun y hy => by have := hpb y hy; first | exact this | exact Nat.le_of_succ_le this | ((try dsimp only); (try simp only [List.length_cons]); omega), fun y hy => by have := hsb y hy; first | exact this | exact Nat.le_of_succ_le this | ((try dsimp only); (try simp only [List.length_cons]); omega)⟩ (fun q hq => .tail _ (.tail _ hq)) D.nd

theorem p_beforePub_sp {ch : Nat} (h1 : isSp ch = true) : Run prog w c z ⟨.beforePub, ch :: r, ⟨nm, pb, sy, ok⟩, fs, false⟩ ⟨.beforePub, r, ⟨nm, pb, sy, ok⟩, fs, false⟩ := by
  intro A s h₀ L m rest R p loose mg mb d hA F D X T₀ hz hr hq hR
  obtain ⟨hvs, e1, e2, e3, e4, e5, hzl, hnb, hpb, hsb, vals, q1, q2, t0, t1, v2, v3, ht, hp, hsy⟩ := hr.starts hz hq
  refine st_enter (f := 689) hA F D X T₀ hz hr.tx (by k_is) (by k_is) rfl rfl rfl (fun g L' h₁ tk₁ m' t u F hs hd D X T hA => ?_) (by decide)
  refine wpAny_execs_cons (if_yes (t_sp F D X T hd h1) fun h₂ tk₂ F D => ?_)
  refine wpAny_execs_cons (wpAny_Pass ?_)
  refine wpAny_execs_nil ?_
  exact st_ret hR F D ⟨hr.st, hr.tx.step u, ⟨_, _, _, _, ht, hp, hsy⟩, ⟨_, q1, by simp only [q2] <;> rfl⟩, (by first | exact hnb | exact Nat.le_of_succ_le hnb | ((try dsimp only); (try simp only [List.length_cons]); omega)), fun y hy => by have := hpb y hy; first | exact this | exact Nat.le_of_succ_le this | ((try dsimp only); (try simp only [List.length_cons]); omega), fun y hy => by have := hsb y hy; first | exact this | exact Nat.le_of_succ_le this | ((try dsimp only); (try simp only [List.length_cons]); omega)⟩ (fun q hq => hq) D.nd

theorem p_beforePub_dq  : Run prog w c z ⟨.beforePub, 34 :: r, ⟨nm, pb, sy, ok⟩, fs, false⟩ ⟨.pubD, r, ⟨nm, (some (Str.ofString "")), sy, ok⟩, fs, false⟩ := by
  intro A s h₀ L m rest R p loose mg mb d hA F D X T₀ hz hr hq hR
  obtain ⟨hvs, e1, e2, e3, e4, e5, hzl, hnb, hpb, hsb, vals, q1, q2, t0, t1, v2, v3, ht, hp, hsy⟩ := hr.starts hz hq
  refine st_enter (f := 689) hA F D X T₀ hz hr.tx (by k_is) (by k_is) rfl rfl rfl (fun g L' h₁ tk₁ m' t u F hs hd D X T hA => ?_) (by decide)
  refine wpAny_execs_cons (if_no (t_sp F D X T hd (by rfl)) fun h₂ tk₂ F D => ?_)
  refine wpAny_execs_cons (if_yes (t_eq F D hd (one_yes rfl)) fun h₂ tk₂ F D => ?_)
  refine wpAny_execs_cons (op_tokstr F X D hs ht (tkl_len _ _ _ _ _) fun h₂ tk₂ o' tn F D ht => ?_)
  rw [tkl_spub] at ht
  refine wpAny_execs_cons (op_state (st_fn _ .pubD) F X D hs fun h₃ tk₃ mu F D => ?_)
  refine wpAny_execs_nil ?_
  refine wpAny_execs_nil ?_
  exact st_ret hR F D ⟨⟨mu, rfl, .head _⟩, hr.tx.step u, ⟨_, _, _, _, ht, ⟨_, rfl⟩, hsy⟩, ⟨_, q1.mono fun q hq => .tail _ hq, by simp only [q2] <;> rfl⟩, (by first | exact hnb | exact Nat.le_of_succ_le hnb | ((try dsimp only); (try simp only [List.length_cons]); omega)), fun y hy => by cases hy; show 0 + r.length ≤ 9000; omega, fun y hy => by have := hsb y hy; first | exact this | exact Nat.le_of_succ_le this | ((try dsimp only); (try simp only [List.length_cons]); omega)⟩ (fun q hq => .tail _ hq) D.nd

theorem p_beforePub_sq  : Run prog w c z ⟨.beforePub, 39 :: r, ⟨nm, pb, sy, ok⟩, fs, false⟩ ⟨.pubS, r, ⟨nm, (some (Str.ofString "")), sy, ok⟩, fs, false⟩ := by
  intro A s h₀ L m rest R p loose mg mb d hA F D X T₀ hz hr hq hR
  obtain ⟨hvs, e1, e2, e3, e4, e5, hzl, hnb, hpb, hsb, vals, q1, q2, t0, t1, v2, v3, ht, hp, hsy⟩ := hr.starts hz hq
  refine st_enter (f := 689) hA F D X T₀ hz hr.tx (by k_is) (by k_is) rfl rfl rfl (fun g L' h₁ tk₁ m' t u F hs hd D X T hA => ?_) (by decide)
  refine wpAny_execs_cons (if_no (t_sp F D X T hd (by rfl)) fun h₂ tk₂ F D => ?_)
  refine wpAny_execs_cons (if_no (t_eq F D hd (one_ne (by decide) rfl)) fun h₂ tk₂ F D => ?_)
  refine wpAny_execs_cons (if_yes (t_eq F D hd (one_yes rfl)) fun h₂ tk₂ F D => ?_)
  refine wpAny_execs_cons (op_tokstr F X D hs ht (tkl_len _ _ _ _ _) fun h₂ tk₂ o' tn F D ht => ?_)
  rw [tkl_spub] at ht
  refine wpAny_execs_cons (op_state (st_fn _ .pubS) F X D hs fun h₃ tk₃ mu F D => ?_)
  refine wpAny_execs_nil ?_
  refine wpAny_execs_nil ?_
  refine wpAny_execs_nil ?_
  exact st_ret hR F D ⟨⟨mu, rfl, .head _⟩, hr.tx.step u, ⟨_, _, _, _, ht, ⟨_, rfl⟩, hsy⟩, ⟨_, q1.mono fun q hq => .tail _ hq, by simp only [q2] <;> rfl⟩, (by first | exact hnb | exact Nat.le_of_succ_le hnb | ((try dsimp only); (try simp only [List.length_cons]); omega)), fun y hy => by cases hy; show 0 + r.length ≤ 9000; omega, fun y hy => by have := hsb y hy; first | exact this | exact Nat.le_of_succ_le this | ((try dsimp only); (try simp only [List.length_cons]); omega)⟩ (fun q hq => .tail _ hq) D.nd

theorem p_pubD_dq  : Run prog w c z ⟨.pubD, 34 :: r, ⟨nm, pb, sy, ok⟩, fs, false⟩ ⟨.afterPubId, r, ⟨nm, pb, sy, ok⟩, fs, false⟩ := by
  intro A s h₀ L m rest R p loose mg mb d hA F D X T₀ hz hr hq hR
  obtain ⟨hvs, e1, e2, e3, e4, e5, hzl, hnb, hpb, hsb, vals, q1, q2, t0, t1, v2, v3, ht, hp, hsy⟩ := hr.starts hz hq
  refine st_enter (f := 696) hA F D X T₀ hz hr.tx (by k_is) (by k_is) rfl rfl rfl (fun g L' h₁ tk₁ m' t u F hs hd D X T hA => ?_) (by decide)
  refine wpAny_execs_cons (if_yes (t_eq F D hd (one_yes rfl)) fun h₂ tk₂ F D => ?_)
  refine wpAny_execs_cons (op_state (st_fn _ .afterPubId) F X D hs fun h₃ tk₃ mu F D => ?_)
  refine wpAny_execs_nil ?_
  exact st_ret hR F D ⟨⟨mu, rfl, .head _⟩, hr.tx.step u, ⟨_, _, _, _, ht, hp, hsy⟩, ⟨_, q1.mono fun q hq => .tail _ hq, by simp only [q2] <;> rfl⟩, (by first | exact hnb | exact Nat.le_of_succ_le hnb | ((try dsimp only); (try simp only [List.length_cons]); omega)), fun y hy => by have := hpb y hy; first | exact this | exact Nat.le_of_succ_le this | ((try dsimp only); (try simp only [List.length_cons]); omega), fun y hy => by have := hsb y hy; first | exact this | exact Nat.le_of_succ_le this | ((try dsimp only); (try simp only [List.length_cons]); omega)⟩ (fun q hq => .tail _ hq) D.nd

theorem p_pubD_nul {x : Str}  : Run prog w c z ⟨.pubD, 0 :: r, ⟨nm, (some x), sy, ok⟩, fs, false⟩ ⟨.pubD, r, ⟨nm, (some (x ++ one 65533)), sy, ok⟩, fs ++ [Str.ofString "invalid-codepoint"], false⟩ := by
  intro A s h₀ L m rest R p loose mg mb d hA F D X T₀ hz hr hq hR
  obtain ⟨hvs, e1, e2, e3, e4, e5, hzl, hnb, hpb, hsb, vals, q1, q2, t0, t1, v2, v3, ht, hp, hsy⟩ := hr.starts hz hq
  refine st_enter (f := 696) hA F D X T₀ hz hr.tx (by k_is) (by k_is) rfl rfl rfl (fun g L' h₁ tk₁ m' t u F hs hd D X T hA => ?_) (by decide)
  have hpx := hpb _ rfl
  refine wpAny_execs_cons (if_no (t_eq F D hd (one_ne (by decide) rfl)) fun h₂ tk₂ F D => ?_)
  refine wpAny_execs_cons (if_yes (t_eq F D hd (one_yes rfl)) fun h₂ tk₂ F D => ?_)
  refine wpAny_execs_cons (op_err F X T D hs (Nat.le_trans hvs (by decide)) fun h₂ tk₂ b o F D he => ?_)
  have q1 := q1.push (b := b) he
  obtain ⟨tx0, rfl⟩ := hp
  refine wpAny_execs_cons (op_tokauglit F X D hs ht (tkl_len _ _ _ _ _) (tkl_pub _ _ _ _ _) (by rw [fffd]; show _ + 1 ≤ _; omega) fun h₂ tk₂ o' tn F D ht => ?_)
  rw [tkl_spub] at ht
  rw [fffd] at ht
  refine wpAny_execs_nil ?_
  refine wpAny_execs_nil ?_
  exact st_ret hR F D ⟨let ⟨mu, q3, q4⟩ := hr.st; ⟨mu, q3, .tail _ q4⟩, hr.tx.step u, ⟨_, _, _, _, ht, ⟨_, rfl⟩, hsy⟩, ⟨_, q1, by simp only [q2] <;> rfl⟩, (by first | exact hnb | exact Nat.le_of_succ_le hnb | ((try dsimp only); (try simp only [List.length_cons]); omega)), fun y hy => by cases hy; show _ + r.length ≤ 9000; rw [len_one]; omega, fun y hy => by have := hsb y hy; first | exact this | exact Nat.le_of_succ_le this | ((try dsimp only); (try simp only [List.length_cons]); omega)⟩ (fun q hq => .tail _ hq) D.nd

theorem p_pubD_c {ch : Nat} {x : Str} (n34 : ch ≠ 34) (n0 : ch ≠ 0) (n62 : ch ≠ 62) : Run prog w c z ⟨.pubD, ch :: r, ⟨nm, (some x), sy, ok⟩, fs, false⟩ ⟨.pubD, r, ⟨nm, (some (x ++ one ch)), sy, ok⟩, fs, false⟩ := by
  intro A s h₀ L m rest R p loose mg mb d hA F D X T₀ hz hr hq hR
  obtain ⟨hvs, e1, e2, e3, e4, e5, hzl, hnb, hpb, hsb, vals, q1, q2, t0, t1, v2, v3, ht, hp, hsy⟩ := hr.starts hz hq
  refine st_enter (f := 696) hA F D X T₀ hz hr.tx (by k_is) (by k_is) rfl rfl rfl (fun g L' h₁ tk₁ m' t u F hs hd D X T hA => ?_) (by decide)
  have hpx := hpb _ rfl
  refine wpAny_execs_cons (if_no (t_eq F D hd (one_ne n34 rfl)) fun h₂ tk₂ F D => ?_)
  refine wpAny_execs_cons (if_no (t_eq F D hd (one_ne n0 rfl)) fun h₂ tk₂ F D => ?_)
  refine wpAny_execs_cons (if_no (t_eq F D hd (one_ne n62 rfl)) fun h₂ tk₂ F D => ?_)
  refine wpAny_execs_cons (if_no (t_eof F D X T hd) fun h₂ tk₂ F D => ?_)
  obtain ⟨tx0, rfl⟩ := hp
  refine wpAny_execs_cons (op_tokaugvar F X D hs hd ht (tkl_len _ _ _ _ _) (tkl_pub _ _ _ _ _) (by show _ + 1 ≤ _; omega) fun h₂ tk₂ o' tn F D ht => ?_)
  rw [tkl_spub] at ht
  refine wpAny_execs_nil ?_
  refine wpAny_execs_nil ?_
  refine wpAny_execs_nil ?_
  refine wpAny_execs_nil ?_
  exact st_ret hR F D ⟨hr.st, hr.tx.step u, ⟨_, _, _, _, ht, ⟨_, rfl⟩, hsy⟩, ⟨_, q1, by simp only [q2] <;> rfl⟩, (by first | exact hnb | exact Nat.le_of_succ_le hnb | ((try dsimp only); (try simp only [List.length_cons]); omega)), fun y hy => by cases hy; show _ + r.length ≤ 9000; rw [len_one]; omega, fun y hy => by have := hsb y hy; first | exact this | exact Nat.le_of_succ_le this | ((try dsimp only); (try simp only [List.length_cons]); omega)⟩ (fun q hq => hq) D.nd

theorem p_pubS_sq  : Run prog w c z ⟨.pubS, 39 :: r, ⟨nm, pb, sy, ok⟩, fs, false⟩ ⟨.afterPubId, r, ⟨nm, pb, sy, ok⟩, fs, false⟩ := by
  intro A s h₀ L m rest R p loose mg mb d hA F D X T₀ hz hr hq hR
  obtain ⟨hvs, e1, e2, e3, e4, e5, hzl, hnb, hpb, hsb, vals, q1, q2, t0, t1, v2, v3, ht, hp, hsy⟩ := hr.starts hz hq
  refine st_enter (f := 703) hA F D X T₀ hz hr.tx (by k_is) (by k_is) rfl rfl rfl (fun g L' h₁ tk₁ m' t u F hs hd D X T hA => ?_) (by decide)
  refine wpAny_execs_cons (if_yes (t_eq F D hd (one_yes rfl)) fun h₂ tk₂ F D => ?_)
  refine wpAny_execs_cons (op_state (st_fn _ .afterPubId) F X D hs fun h₃ tk₃ mu F D => ?_)
  refine wpAny_execs_nil ?_
  exact st_ret hR F D ⟨⟨mu, rfl, .head _⟩, hr.tx.step u, ⟨_, _, _, _, ht, hp, hsy⟩, ⟨_, q1.mono fun q hq => .tail _ hq, by simp only [q2] <;> rfl⟩, (by first | exact hnb | exact Nat.le_of_succ_le hnb | ((try dsimp only); (try simp only [List.length_cons]); omega)), fun y hy => by have := hpb y hy; first | exact this | exact Nat.le_of_succ_le this | ((try dsimp only); (try simp only [List.length_cons]); omega), fun y hy => by have := hsb y hy; first | exact this | exact Nat.le_of_succ_le this | ((try dsimp only); (try simp only [List.length_cons]); omega)⟩ (fun q hq => .tail _ hq) D.nd

theorem p_pubS_nul {x : Str}  : Run prog w c z ⟨.pubS, 0 :: r, ⟨nm, (some x), sy, ok⟩, fs, false⟩ ⟨.pubS, r, ⟨nm, (some (x ++ one 65533)), sy, ok⟩, fs ++ [Str.ofString "invalid-codepoint"], false⟩ := by
  intro A s h₀ L m rest R p loose mg mb d hA F D X T₀ hz hr hq hR
  obtain ⟨hvs, e1, e2, e3, e4, e5, hzl, hnb, hpb, hsb, vals, q1, q2, t0, t1, v2, v3, ht, hp, hsy⟩ := hr.starts hz hq
  refine st_enter (f := 703) hA F D X T₀ hz hr.tx (by k_is) (by k_is) rfl rfl rfl (fun g L' h₁ tk₁ m' t u F hs hd D X T hA => ?_) (by decide)
  have hpx := hpb _ rfl
  refine wpAny_execs_cons (if_no (t_eq F D hd (one_ne (by decide) rfl)) fun h₂ tk₂ F D => ?_)
  refine wpAny_execs_cons (if_yes (t_eq F D hd (one_yes rfl)) fun h₂ tk₂ F D => ?_)
  refine wpAny_execs_cons (op_err F X T D hs (Nat.le_trans hvs (by decide)) fun h₂ tk₂ b o F D he => ?_)
  have q1 := q1.push (b := b) he
  obtain ⟨tx0, rfl⟩ := hp
  refine wpAny_execs_cons (op_tokauglit F X D hs ht (tkl_len _ _ _ _ _) (tkl_pub _ _ _ _ _) (by rw [fffd]; show _ + 1 ≤ _; omega) fun h₂ tk₂ o' tn F D ht => ?_)
  rw [tkl_spub] at ht
  rw [fffd] at ht
  refine wpAny_execs_nil ?_
  refine wpAny_execs_nil ?_
  exact st_ret hR F D ⟨let ⟨mu, q3, q4⟩ := hr.st; ⟨mu, q3, .tail _ q4⟩, hr.tx.step u, ⟨_, _, _, _, ht, ⟨_, rfl⟩, hsy⟩, ⟨_, q1, by simp only [q2] <;> rfl⟩, (by first | exact hnb | exact Nat.le_of_succ_le hnb | ((try dsimp only); (try simp only [List.length_cons]); omega)), fun y hy => by cases hy; show _ + r.length ≤ 9000; rw [len_one]; omega, fun y hy => by have := hsb y hy; first | exact this | exact Nat.le_of_succ_le this | ((try dsimp only); (try simp only [List.length_cons]); omega)⟩ (fun q hq => .tail _ hq) D.nd

theorem p_pubS_c {ch : Nat} {x : Str} (n39 : ch ≠ 39) (n0 : ch ≠ 0) (n62 : ch ≠ 62) : Run prog w c z ⟨.pubS, ch :: r, ⟨nm, (some x), sy, ok⟩, fs, false⟩ ⟨.pubS, r, ⟨nm, (some (x ++ one ch)), sy, ok⟩, fs, false⟩ := by
  intro A s h₀ L m rest R p loose mg mb d hA F D X T₀ hz hr hq hR
  obtain ⟨hvs, e1, e2, e3, e4, e5, hzl, hnb, hpb, hsb, vals, q1, q2, t0, t1, v2, v3, ht, hp, hsy⟩ := hr.starts hz hq
  refine st_enter (f := 703) hA F D X T₀ hz hr.tx (by k_is) (by k_is) rfl rfl rfl (fun g L' h₁ tk₁ m' t u F hs hd D X T hA => ?_) (by decide)
  have hpx := hpb _ rfl
  refine wpAny_execs_cons (if_no (t_eq F D hd (one_ne n39 rfl)) fun h₂ tk₂ F D => ?_)
  refine wpAny_execs_cons (if_no (t_eq F D hd (one_ne n0 rfl)) fun h₂ tk₂ F D => ?_)
  refine wpAny_execs_cons (if_no (t_eq F D hd (one_ne n62 rfl)) fun h₂ tk₂ F D => ?_)
  refine wpAny_execs_cons (if_no (t_eof F D X T hd) fun h₂ tk₂ F D => ?_)
  obtain ⟨tx0, rfl⟩ := hp
  refine wpAny_execs_cons (op_tokaugvar F X D hs hd ht (tkl_len _ _ _ _ _) (tkl_pub _ _ _ _ _) (by show _ + 1 ≤ _; omega) fun h₂ tk₂ o' tn F D ht => ?_)
  rw [tkl_spub] at ht
  refine wpAny_execs_nil ?_
  refine wpAny_execs_nil ?_
  refine wpAny_execs_nil ?_
  refine wpAny_execs_nil ?_
  exact st_ret hR F D ⟨hr.st, hr.tx.step u, ⟨_, _, _, _, ht, ⟨_, rfl⟩, hsy⟩, ⟨_, q1, by simp only [q2] <;> rfl⟩, (by first | exact hnb | exact Nat.le_of_succ_le hnb | ((try dsimp only); (try simp only [List.length_cons]); omega)), fun y hy => by cases hy; show _ + r.length ≤ 9000; rw [len_one]; omega, fun y hy => by have := hsb y hy; first | exact this | exact Nat.le_of_succ_le this | ((try dsimp only); (try simp only [List.length_cons]); omega)⟩ (fun q hq => hq) D.nd

theorem p_afterPubId_sp {ch : Nat} (h1 : isSp ch = true) : Run prog w c z ⟨.afterPubId, ch :: r, ⟨nm, pb, sy, ok⟩, fs, false⟩ ⟨.between, r, ⟨nm, pb, sy, ok⟩, fs, false⟩ := by
  intro A s h₀ L m rest R p loose mg mb d hA F D X T₀ hz hr hq hR
  obtain ⟨hvs, e1, e2, e3, e4, e5, hzl, hnb, hpb, hsb, vals, q1, q2, t0, t1, v2, v3, ht, hp, hsy⟩ := hr.starts hz hq
  refine st_enter (f := 710) hA F D X T₀ hz hr.tx (by k_is) (by k_is) rfl rfl rfl (fun g L' h₁ tk₁ m' t u F hs hd D X T hA => ?_) (by decide)
  refine wpAny_execs_cons (if_yes (t_sp F D X T hd h1) fun h₂ tk₂ F D => ?_)
  refine wpAny_execs_cons (op_state (st_fn _ .between) F X D hs fun h₃ tk₃ mu F D => ?_)
  refine wpAny_execs_nil ?_
  exact st_ret hR F D ⟨⟨mu, rfl, .head _⟩, hr.tx.step u, ⟨_, _, _, _, ht, hp, hsy⟩, ⟨_, q1.mono fun q hq => .tail _ hq, by simp only [q2] <;> rfl⟩, (by first | exact hnb | exact Nat.le_of_succ_le hnb | ((try dsimp only); (try simp only [List.length_cons]); omega)), fun y hy => by have := hpb y hy; first | exact this | exact Nat.le_of_succ_le this | ((try dsimp only); (try simp only [List.length_cons]); omega), fun y hy => by have := hsb y hy; first | exact this | exact Nat.le_of_succ_le this | ((try dsimp only); (try simp only [List.length_cons]); omega)⟩ (fun q hq => .tail _ hq) D.nd

theorem p_afterPubId_gt  : Run prog w c z ⟨.afterPubId, 62 :: r, ⟨nm, pb, sy, ok⟩, fs, false⟩ ⟨.data, r, ⟨nm, pb, sy, ok⟩, fs, true⟩ := by
  intro A s h₀ L m rest R p loose mg mb d hA F D X T₀ hz hr hq hR
  obtain ⟨hvs, e1, e2, e3, e4, e5, hzl, hnb, hpb, hsb, vals, q1, q2, t0, t1, v2, v3, ht, hp, hsy⟩ := hr.starts hz hq
  refine st_enter (f := 710) hA F D X T₀ hz hr.tx (by k_is) (by k_is) rfl rfl rfl (fun g L' h₁ tk₁ m' t u F hs hd D X T hA => ?_) (by decide)
  refine wpAny_execs_cons (if_no (t_sp F D X T hd (by rfl)) fun h₂ tk₂ F D => ?_)
  refine wpAny_execs_cons (if_yes (t_eq F D hd (one_yes rfl)) fun h₂ tk₂ F D => ?_)
  refine wpAny_execs_cons (op_emit F X D hs (Nat.le_trans hvs (by decide)) fun h₂ tk₂ F D => ?_)
  refine wpAny_execs_cons (op_state (st_fn _ .data) F X D hs fun h₃ tk₃ mu F D => ?_)
  refine wpAny_execs_nil ?_
  refine wpAny_execs_nil ?_
  exact st_ret hR F D ⟨⟨mu, rfl, .head _⟩, hr.tx.step u, ⟨_, _, _, _, ht, hp, hsy⟩, ⟨_, q1.mono fun q hq => .tail _ hq, by simp only [q2] <;> rfl⟩, (by first | exact hnb | exact Nat.le_of_succ_le hnb | ((try dsimp only); (try simp only [List.length_cons]); omega)), fun y hy => by have := hpb y hy; first | exact this | exact Nat.le_of_succ_le this | ((try dsimp only); (try simp only [List.length_cons]); omega), fun y hy => by have := hsb y hy; first | exact this | exact Nat.le_of_succ_le this | ((try dsimp only); (try simp only [List.length_cons]); omega)⟩ (fun q hq => .tail _ hq) D.nd

theorem p_afterPubId_dq  : Run prog w c z ⟨.afterPubId, 34 :: r, ⟨nm, pb, sy, ok⟩, fs, false⟩ ⟨.sysD, r, ⟨nm, pb, (some (Str.ofString "")), ok⟩, fs ++ [Str.ofString "unexpected-char-in-doctype"], false⟩ := by
  intro A s h₀ L m rest R p loose mg mb d hA F D X T₀ hz hr hq hR
  obtain ⟨hvs, e1, e2, e3, e4, e5, hzl, hnb, hpb, hsb, vals, q1, q2, t0, t1, v2, v3, ht, hp, hsy⟩ := hr.starts hz hq
  refine st_enter (f := 710) hA F D X T₀ hz hr.tx (by k_is) (by k_is) rfl rfl rfl (fun g L' h₁ tk₁ m' t u F hs hd D X T hA => ?_) (by decide)
  refine wpAny_execs_cons (if_no (t_sp F D X T hd (by rfl)) fun h₂ tk₂ F D => ?_)
  refine wpAny_execs_cons (if_no (t_eq F D hd (one_ne (by decide) rfl)) fun h₂ tk₂ F D => ?_)
  refine wpAny_execs_cons (if_yes (t_eq F D hd (one_yes rfl)) fun h₂ tk₂ F D => ?_)
  refine wpAny_execs_cons (op_err F X T D hs (Nat.le_trans hvs (by decide)) fun h₂ tk₂ b o F D he => ?_)
  have q1 := q1.push (b := b) he
  refine wpAny_execs_cons (op_tokstr F X D hs ht (tkl_len _ _ _ _ _) fun h₂ tk₂ o' tn F D ht => ?_)
  rw [tkl_ssys] at ht
  refine wpAny_execs_cons (op_state (st_fn _ .sysD) F X D hs fun h₃ tk₃ mu F D => ?_)
  refine wpAny_execs_nil ?_
  refine wpAny_execs_nil ?_
  refine wpAny_execs_nil ?_
  exact st_ret hR F D ⟨⟨mu, rfl, .head _⟩, hr.tx.step u, ⟨_, _, _, _, ht, hp, ⟨_, rfl⟩⟩, ⟨_, q1.mono fun q hq => .tail _ hq, by simp only [q2] <;> rfl⟩, (by first | exact hnb | exact Nat.le_of_succ_le hnb | ((try dsimp only); (try simp only [List.length_cons]); omega)), fun y hy => by have := hpb y hy; first | exact this | exact Nat.le_of_succ_le this | ((try dsimp only); (try simp only [List.length_cons]); omega), fun y hy => by cases hy; show 0 + r.length ≤ 9000; omega⟩ (fun q hq => .tail _ (.tail _ hq)) D.nd

theorem p_afterPubId_sq  : Run prog w c z ⟨.afterPubId, 39 :: r, ⟨nm, pb, sy, ok⟩, fs, false⟩ ⟨.sysS, r, ⟨nm, pb, (some (Str.ofString "")), ok⟩, fs ++ [Str.ofString "unexpected-char-in-doctype"], false⟩ := by
  intro A s h₀ L m rest R p loose mg mb d hA F D X T₀ hz hr hq hR
  obtain ⟨hvs, e1, e2, e3, e4, e5, hzl, hnb, hpb, hsb, vals, q1, q2, t0, t1, v2, v3, ht, hp, hsy⟩ := hr.starts hz hq
  refine st_enter (f := 710) hA F D X T₀ hz hr.tx (by k_is) (by k_is) rfl rfl rfl (fun g L' h₁ tk₁ m' t u F hs hd D X T hA => ?_) (by decide)
  refine wpAny_execs_cons (if_no (t_sp F D X T hd (by rfl)) fun h₂ tk₂ F D => ?_)
  refine wpAny_execs_cons (if_no (t_eq F D hd (one_ne (by decide) rfl)) fun h₂ tk₂ F D => ?_)
  refine wpAny_execs_cons (if_no (t_eq F D hd (one_ne (by decide) rfl)) fun h₂ tk₂ F D => ?_)
  refine wpAny_execs_cons (if_yes (t_eq F D hd (one_yes rfl)) fun h₂ tk₂ F D => ?_)
  refine wpAny_execs_cons (op_err F X T D hs (Nat.le_trans hvs (by decide)) fun h₂ tk₂ b o F D he => ?_)
  have q1 := q1.push (b := b) he
  refine wpAny_execs_cons (op_tokstr F X D hs ht (tkl_len _ _ _ _ _) fun h₂ tk₂ o' tn F D ht => ?_)
  rw [tkl_ssys] at ht
  refine wpAny_execs_cons (op_state (st_fn _ .sysS) F X D hs fun h₃ tk₃ mu F D => ?_)
  refine wpAny_execs_nil ?_
  refine wpAny_execs_nil ?_
  refine wpAny_execs_nil ?_
  refine wpAny_execs_nil ?_
  exact st_ret hR F D ⟨⟨mu, rfl, .head _⟩, hr.tx.step u, ⟨_, _, _, _, ht, hp, ⟨_, rfl⟩⟩, ⟨_, q1.mono fun q hq => .tail _ hq, by simp only [q2] <;> rfl⟩, (by first | exact hnb | exact Nat.le_of_succ_le hnb | ((try dsimp only); (try simp only [List.length_cons]); omega)), fun y hy => by have := hpb y hy; first | exact this | exact Nat.le_of_succ_le this | ((try dsimp only); (try simp only [List.length_cons]); omega), fun y hy => by cases hy; show 0 + r.length ≤ 9000; omega⟩ (fun q hq => .tail _ (.tail _ hq)) D.nd

theorem p_afterPubId_c {ch : Nat} (h1 : isSp ch = false) (n62 : ch ≠ 62) (n34 : ch ≠ 34) (n39 : ch ≠ 39) : Run prog w c z ⟨.afterPubId, ch :: r, ⟨nm, pb, sy, ok⟩, fs, false⟩ ⟨.bogus, r, ⟨nm, pb, sy, false⟩, fs ++ [Str.ofString "unexpected-char-in-doctype"], false⟩ := by
  intro A s h₀ L m rest R p loose mg mb d hA F D X T₀ hz hr hq hR
  obtain ⟨hvs, e1, e2, e3, e4, e5, hzl, hnb, hpb, hsb, vals, q1, q2, t0, t1, v2, v3, ht, hp, hsy⟩ := hr.starts hz hq
  refine st_enter (f := 710) hA F D X T₀ hz hr.tx (by k_is) (by k_is) rfl rfl rfl (fun g L' h₁ tk₁ m' t u F hs hd D X T hA => ?_) (by decide)
  refine wpAny_execs_cons (if_no (t_sp F D X T hd h1) fun h₂ tk₂ F D => ?_)
  refine wpAny_execs_cons (if_no (t_eq F D hd (one_ne n62 rfl)) fun h₂ tk₂ F D => ?_)
  refine wpAny_execs_cons (if_no (t_eq F D hd (one_ne n34 rfl)) fun h₂ tk₂ F D => ?_)
  refine wpAny_execs_cons (if_no (t_eq F D hd (one_ne n39 rfl)) fun h₂ tk₂ F D => ?_)
  refine wpAny_execs_cons (if_no (t_eof F D X T hd) fun h₂ tk₂ F D => ?_)
  refine wpAny_execs_cons (op_err F X T D hs (Nat.le_trans hvs (by decide)) fun h₂ tk₂ b o F D he => ?_)
  have q1 := q1.push (b := b) he
  refine wpAny_execs_cons (op_tokbool F X D hs ht (tkl_len _ _ _ _ _) fun h₂ tk₂ o' F D ht => ?_)
  rw [tkl_sok] at ht
  refine wpAny_execs_cons (op_state (st_fn _ .bogus) F X D hs fun h₃ tk₃ mu F D => ?_)
  refine wpAny_execs_nil ?_
  refine wpAny_execs_nil ?_
  refine wpAny_execs_nil ?_
  refine wpAny_execs_nil ?_
  refine wpAny_execs_nil ?_
  exact st_ret hR F D ⟨⟨mu, rfl, .head _⟩, hr.tx.step u, ⟨_, _, _, _, ht, hp, hsy⟩, ⟨_, q1.mono fun q hq => .tail _ hq, by simp only [q2] <;> rfl⟩, (by first | exact hnb | exact Nat.le_of_succ_le hnb | ((try dsimp only); (try simp only [List.length_cons]); omega)), fun y hy => by have := hpb y hy; first | exact this | exact Nat.le_of_succ_le this | ((try dsimp only); (try simp only [List.length_cons]); omega), fun y hy => by have := hsb y hy; first | exact this | exact Nat.le_of_succ_le this | ((try dsimp only); (try simp only [List.length_cons]); omega)⟩ (fun q hq => .tail _ (.tail _ hq)) D.nd

theorem p_between_sp {ch : Nat} (h1 : isSp ch = true) : Run prog w c z ⟨.between, ch :: r, ⟨nm, pb, sy, ok⟩, fs, false⟩ ⟨.between, r, ⟨nm, pb, sy, ok⟩, fs, false⟩ := by
  intro A s h₀ L m rest R p loose mg mb d hA F D X T₀ hz hr hq hR
  obtain ⟨hvs, e1, e2, e3, e4, e5, hzl, hnb, hpb, hsb, vals, q1, q2, t0, t1, v2, v3, ht, hp, hsy⟩ := hr.starts hz hq
  refine st_enter (f := 717) hA F D X T₀ hz hr.tx (by k_is) (by k_is) rfl rfl rfl (fun g L' h₁ tk₁ m' t u F hs hd D X T hA => ?_) (by decide)
  refine wpAny_execs_cons (if_yes (t_sp F D X T hd h1) fun h₂ tk₂ F D => ?_)
  refine wpAny_execs_cons (wpAny_Pass ?_)
  refine wpAny_execs_nil ?_
  exact st_ret hR F D ⟨hr.st, hr.tx.step u, ⟨_, _, _, _, ht, hp, hsy⟩, ⟨_, q1, by simp only [q2] <;> rfl⟩, (by first | exact hnb | exact Nat.le_of_succ_le hnb | ((try dsimp only); (try simp only [List.length_cons]); omega)), fun y hy => by have := hpb y hy; first | exact this | exact Nat.le_of_succ_le this | ((try dsimp only); (try simp only [List.length_cons]); omega), fun y hy => by have := hsb y hy; first | exact this | exact Nat.le_of_succ_le this | ((try dsimp only); (try simp only [List.length_cons]); omega)⟩ (fun q hq => hq) D.nd

theorem p_between_gt  : Run prog w c z ⟨.between, 62 :: r, ⟨nm, pb, sy, ok⟩, fs, false⟩ ⟨.data, r, ⟨nm, pb, sy, ok⟩, fs, true⟩ := by
  intro A s h₀ L m rest R p loose mg mb d hA F D X T₀ hz hr hq hR
  obtain ⟨hvs, e1, e2, e3, e4, e5, hzl, hnb, hpb, hsb, vals, q1, q2, t0, t1, v2, v3, ht, hp, hsy⟩ := hr.starts hz hq
  refine st_enter (f := 717) hA F D X T₀ hz hr.tx (by k_is) (by k_is) rfl rfl rfl (fun g L' h₁ tk₁ m' t u F hs hd D X T hA => ?_) (by decide)
  refine wpAny_execs_cons (if_no (t_sp F D X T hd (by rfl)) fun h₂ tk₂ F D => ?_)
  refine wpAny_execs_cons (if_yes (t_eq F D hd (one_yes rfl)) fun h₂ tk₂ F D => ?_)
  refine wpAny_execs_cons (op_emit F X D hs (Nat.le_trans hvs (by decide)) fun h₂ tk₂ F D => ?_)
  refine wpAny_execs_cons (op_state (st_fn _ .data) F X D hs fun h₃ tk₃ mu F D => ?_)
  refine wpAny_execs_nil ?_
  refine wpAny_execs_nil ?_
  exact st_ret hR F D ⟨⟨mu, rfl, .head _⟩, hr.tx.step u, ⟨_, _, _, _, ht, hp, hsy⟩, ⟨_, q1.mono fun q hq => .tail _ hq, by simp only [q2] <;> rfl⟩, (by first | exact hnb | exact Nat.le_of_succ_le hnb | ((try dsimp only); (try simp only [List.length_cons]); omega)), fun y hy => by have := hpb y hy; first | exact this | exact Nat.le_of_succ_le this | ((try dsimp only); (try simp only [List.length_cons]); omega), fun y hy => by have := hsb y hy; first | exact this | exact Nat.le_of_succ_le this | ((try dsimp only); (try simp only [List.length_cons]); omega)⟩ (fun q hq => .tail _ hq) D.nd

theorem p_between_dq  : Run prog w c z ⟨.between, 34 :: r, ⟨nm, pb, sy, ok⟩, fs, false⟩ ⟨.sysD, r, ⟨nm, pb, (some (Str.ofString "")), ok⟩, fs, false⟩ := by
  intro A s h₀ L m rest R p loose mg mb d hA F D X T₀ hz hr hq hR
  obtain ⟨hvs, e1, e2, e3, e4, e5, hzl, hnb, hpb, hsb, vals, q1, q2, t0, t1, v2, v3, ht, hp, hsy⟩ := hr.starts hz hq
  refine st_enter (f := 717) hA F D X T₀ hz hr.tx (by k_is) (by k_is) rfl rfl rfl (fun g L' h₁ tk₁ m' t u F hs hd D X T hA => ?_) (by decide)
  refine wpAny_execs_cons (if_no (t_sp F D X T hd (by rfl)) fun h₂ tk₂ F D => ?_)
  refine wpAny_execs_cons (if_no (t_eq F D hd (one_ne (by decide) rfl)) fun h₂ tk₂ F D => ?_)
  refine wpAny_execs_cons (if_yes (t_eq F D hd (one_yes rfl)) fun h₂ tk₂ F D => ?_)
  refine wpAny_execs_cons (op_tokstr F X D hs ht (tkl_len _ _ _ _ _) fun h₂ tk₂ o' tn F D ht => ?_)
  rw [tkl_ssys] at ht
  refine wpAny_execs_cons (op_state (st_fn _ .sysD) F X D hs fun h₃ tk₃ mu F D => ?_)
  refine wpAny_execs_nil ?_
  refine wpAny_execs_nil ?_
  refine wpAny_execs_nil ?_
  exact st_ret hR F D ⟨⟨mu, rfl, .head _⟩, hr.tx.step u, ⟨_, _, _, _, ht, hp, ⟨_, rfl⟩⟩, ⟨_, q1.mono fun q hq => .tail _ hq, by simp only [q2] <;> rfl⟩, (by first | exact hnb | exact Nat.le_of_succ_le hnb | ((try dsimp only); (try simp only [List.length_cons]); omega)), fun y hy => by have := hpb y hy; first | exact this | exact Nat.le_of_succ_le this | ((try dsimp only); (try simp only [List.length_cons]); omega), fun y hy => by cases hy; show 0 + r.length ≤ 9000; omega⟩ (fun q hq => .tail _ hq) D.nd

theorem p_between_sq  : Run prog w c z ⟨.between, 39 :: r, ⟨nm, pb, sy, ok⟩, fs, false⟩ ⟨.sysS, r, ⟨nm, pb, (some (Str.ofString "")), ok⟩, fs, false⟩ := by
  intro A s h₀ L m rest R p loose mg mb d hA F D X T₀ hz hr hq hR
  obtain ⟨hvs, e1, e2, e3, e4, e5, hzl, hnb, hpb, hsb, vals, q1, q2, t0, t1, v2, v3, ht, hp, hsy⟩ := hr.starts hz hq
  refine st_enter (f := 717) hA F D X T₀ hz hr.tx (by k_is) (by k_is) rfl rfl rfl (fun g L' h₁ tk₁ m' t u F hs hd D X T hA => ?_) (by decide)
  refine wpAny_execs_cons (if_no (t_sp F D X T hd (by rfl)) fun h₂ tk₂ F D => ?_)
  refine wpAny_execs_cons (if_no (t_eq F D hd (one_ne (by decide) rfl)) fun h₂ tk₂ F D => ?_)
  refine wpAny_execs_cons (if_no (t_eq F D hd (one_ne (by decide) rfl)) fun h₂ tk₂ F D => ?_)
  refine wpAny_execs_cons (if_yes (t_eq F D hd (one_yes rfl)) fun h₂ tk₂ F D => ?_)
  refine wpAny_execs_cons (op_tokstr F X D hs ht (tkl_len _ _ _ _ _) fun h₂ tk₂ o' tn F D ht => ?_)
  rw [tkl_ssys] at ht
  refine wpAny_execs_cons (op_state (st_fn _ .sysS) F X D hs fun h₃ tk₃ mu F D => ?_)
  refine wpAny_execs_nil ?_
  refine wpAny_execs_nil ?_
  refine wpAny_execs_nil ?_
  refine wpAny_execs_nil ?_
  exact st_ret hR F D ⟨⟨mu, rfl, .head _⟩, hr.tx.step u, ⟨_, _, _, _, ht, hp, ⟨_, rfl⟩⟩, ⟨_, q1.mono fun q hq => .tail _ hq, by simp only [q2] <;> rfl⟩, (by first | exact hnb | exact Nat.le_of_succ_le hnb | ((try dsimp only); (try simp only [List.length_cons]); omega)), fun y hy => by have := hpb y hy; first | exact this | exact Nat.le_of_succ_le this | ((try dsimp only); (try simp only [List.length_cons]); omega), fun y hy => by cases hy; show 0 + r.length ≤ 9000; omega⟩ (fun q hq => .tail _ hq) D.nd

theorem p_between_c {ch : Nat} (h1 : isSp ch = false) (n62 : ch ≠ 62) (n34 : ch ≠ 34) (n39 : ch ≠ 39) : Run prog w c z ⟨.between, ch :: r, ⟨nm, pb, sy, ok⟩, fs, false⟩ ⟨.bogus, r, ⟨nm, pb, sy, false⟩, fs ++ [Str.ofString "unexpected-char-in-doctype"], false⟩ := by
  intro A s h₀ L m rest R p loose mg mb d hA F D X T₀ hz hr hq hR
  obtain ⟨hvs, e1, e2, e3, e4, e5, hzl, hnb, hpb, hsb, vals, q1, q2, t0, t1, v2, v3, ht, hp, hsy⟩ := hr.starts hz hq
  refine st_enter (f := 717) hA F D X T₀ hz hr.tx (by k_is) (by k_is) rfl rfl rfl (fun g L' h₁ tk₁ m' t u F hs hd D X T hA => ?_) (by decide)
  refine wpAny_execs_cons (if_no (t_sp F D X T hd h1) fun h₂ tk₂ F D => ?_)
  refine wpAny_execs_cons (if_no (t_eq F D hd (one_ne n62 rfl)) fun h₂ tk₂ F D => ?_)
  refine wpAny_execs_cons (if_no (t_eq F D hd (one_ne n34 rfl)) fun h₂ tk₂ F D => ?_)
  refine wpAny_execs_cons (if_no (t_eq F D hd (one_ne n39 rfl)) fun h₂ tk₂ F D => ?_)
  refine wpAny_execs_cons (if_no (t_eqeof F D X T hd) fun h₂ tk₂ F D => ?_)
  refine wpAny_execs_cons (op_err F X T D hs (Nat.le_trans hvs (by decide)) fun h₂ tk₂ b o F D he => ?_)
  have q1 := q1.push (b := b) he
  refine wpAny_execs_cons (op_tokbool F X D hs ht (tkl_len _ _ _ _ _) fun h₂ tk₂ o' F D ht => ?_)
  rw [tkl_sok] at ht
  refine wpAny_execs_cons (op_state (st_fn _ .bogus) F X D hs fun h₃ tk₃ mu F D => ?_)
  refine wpAny_execs_nil ?_
  refine wpAny_execs_nil ?_
  refine wpAny_execs_nil ?_
  refine wpAny_execs_nil ?_
  refine wpAny_execs_nil ?_
  exact st_ret hR F D ⟨⟨mu, rfl, .head _⟩, hr.tx.step u, ⟨_, _, _, _, ht, hp, hsy⟩, ⟨_, q1.mono fun q hq => .tail _ hq, by simp only [q2] <;> rfl⟩, (by first | exact hnb | exact Nat.le_of_succ_le hnb | ((try dsimp only); (try simp only [List.length_cons]); omega)), fun y hy => by have := hpb y hy; first | exact this | exact Nat.le_of_succ_le this | ((try dsimp only); (try simp only [List.length_cons]); omega), fun y hy => by have := hsb y hy; first | exact this | exact Nat.le_of_succ_le this | ((try dsimp only); (try simp only [List.length_cons]); omega)⟩ (fun q hq => .tail _ (.tail _ hq)) D.nd

theorem p_afterSys_sp {ch : Nat} (h1 : isSp ch = true) : Run prog w c z ⟨.afterSys, ch :: r, ⟨nm, pb, sy, ok⟩, fs, false⟩ ⟨.beforeSys, r, ⟨nm, pb, sy, ok⟩, fs, false⟩ := by
  intro A s h₀ L m rest R p loose mg mb d hA F D X T₀ hz hr hq hR
  obtain ⟨hvs, e1, e2, e3, e4, e5, hzl, hnb, hpb, hsb, vals, q1, q2, t0, t1, v2, v3, ht, hp, hsy⟩ := hr.starts hz hq
  refine st_enter (f := 724) hA F D X T₀ hz hr.tx (by k_is) (by k_is) rfl rfl rfl (fun g L' h₁ tk₁ m' t u F hs hd D X T hA => ?_) (by decide)
  refine wpAny_execs_cons (if_yes (t_sp F D X T hd h1) fun h₂ tk₂ F D => ?_)
  refine wpAny_execs_cons (op_state (st_fn _ .beforeSys) F X D hs fun h₃ tk₃ mu F D => ?_)
  refine wpAny_execs_nil ?_
  exact st_ret hR F D ⟨⟨mu, rfl, .head _⟩, hr.tx.step u, ⟨_, _, _, _, ht, hp, hsy⟩, ⟨_, q1.mono fun q hq => .tail _ hq, by simp only [q2] <;> rfl⟩, (by first | exact hnb | exact Nat.le_of_succ_le hnb | ((try dsimp only); (try simp only [List.length_cons]); omega)), fun y hy => by have := hpb y hy; first | exact this | exact Nat.le_of_succ_le this | ((try dsimp only); (try simp only [List.length_cons]); omega), fun y hy => by have := hsb y hy; first | exact this | exact Nat.le_of_succ_le this | ((try dsimp only); (try simp only [List.length_cons]); omega)⟩ (fun q hq => .tail _ hq) D.nd

theorem p_afterSys_qu {ch : Nat} (hqu : ch = 39 ∨ ch = 34) : Run prog w c z ⟨.afterSys, ch :: r, ⟨nm, pb, sy, ok⟩, fs, false⟩ ⟨.beforeSys, ch :: r, ⟨nm, pb, sy, ok⟩, fs ++ [Str.ofString "unexpected-char-in-doctype"], false⟩ := by
  intro A s h₀ L m rest R p loose mg mb d hA F D X T₀ hz hr hq hR
  obtain ⟨hvs, e1, e2, e3, e4, e5, hzl, hnb, hpb, hsb, vals, q1, q2, t0, t1, v2, v3, ht, hp, hsy⟩ := hr.starts hz hq
  refine st_enter (f := 724) hA F D X T₀ hz hr.tx (by k_is) (by k_is) rfl rfl rfl (fun g L' h₁ tk₁ m' t u F hs hd D X T hA => ?_) (by decide)
  have hnsp : isSp ch = false := by rcases hqu with rfl | rfl <;> rfl
  refine wpAny_execs_cons (if_no (t_sp F D X T hd hnsp) fun h₂ tk₂ F D => ?_)
  refine wpAny_execs_cons (if_yes (t_in2 F D hd (two_yes hqu)) fun h₂ tk₂ F D => ?_)
  refine wpAny_execs_cons (op_err F X T D hs (Nat.le_trans hvs (by decide)) fun h₂ tk₂ b o F D he => ?_)
  have q1 := q1.push (b := b) he
  refine wpAny_execs_cons (op_unget (ch := ch) (hA.le (by decide)) F X T D hs hd (by show 0 < d.sd.off + 1; omega) (by show d.sd.off + 1 < _; omega) (by show d.sd.chunk.cps[(d.sd.off + 1 - 1).toNat]? = _; rw [Int.add_sub_cancel]; exact e5) fun h₂ tk₂ u' F D => ?_)
  refine wpAny_execs_cons (op_state (st_fn _ .beforeSys) F X D hs fun h₃ tk₃ mu F D => ?_)
  refine wpAny_execs_nil ?_
  refine wpAny_execs_nil ?_
  exact st_ret hR F D ⟨⟨mu, rfl, .head _⟩, hr.tx.back u u', ⟨_, _, _, _, ht, hp, hsy⟩, ⟨_, q1.mono fun q hq => .tail _ hq, by simp only [q2] <;> rfl⟩, (by first | exact hnb | exact Nat.le_of_succ_le hnb | ((try dsimp only); (try simp only [List.length_cons]); omega)), fun y hy => by have := hpb y hy; first | exact this | exact Nat.le_of_succ_le this | ((try dsimp only); (try simp only [List.length_cons]); omega), fun y hy => by have := hsb y hy; first | exact this | exact Nat.le_of_succ_le this | ((try dsimp only); (try simp only [List.length_cons]); omega)⟩ (fun q hq => .tail _ (.tail _ hq)) D.nd

theorem p_beforeSys_sp {ch : Nat} (h1 : isSp ch = true) : Run prog w c z ⟨.beforeSys, ch :: r, ⟨nm, pb, sy, ok⟩, fs, false⟩ ⟨.beforeSys, r, ⟨nm, pb, sy, ok⟩, fs, false⟩ := by
  intro A s h₀ L m rest R p loose mg mb d hA F D X T₀ hz hr hq hR
  obtain ⟨hvs, e1, e2, e3, e4, e5, hzl, hnb, hpb, hsb, vals, q1, q2, t0, t1, v2, v3, ht, hp, hsy⟩ := hr.starts hz hq
  refine st_enter (f := 731) hA F D X T₀ hz hr.tx (by k_is) (by k_is) rfl rfl rfl (fun g L' h₁ tk₁ m' t u F hs hd D X T hA => ?_) (by decide)
  refine wpAny_execs_cons (if_yes (t_sp F D X T hd h1) fun h₂ tk₂ F D => ?_)
  refine wpAny_execs_cons (wpAny_Pass ?_)
  refine wpAny_execs_nil ?_
  exact st_ret hR F D ⟨hr.st, hr.tx.step u, ⟨_, _, _, _, ht, hp, hsy⟩, ⟨_, q1, by simp only [q2] <;> rfl⟩, (by first | exact hnb | exact Nat.le_of_succ_le hnb | ((try dsimp only); (try simp only [List.length_cons]); omega)), fun y hy => by have := hpb y hy; first | exact this | exact Nat.le_of_succ_le this | ((try dsimp only); (try simp only [List.length_cons]); omega), fun y hy => by have := hsb y hy; first | exact this | exact Nat.le_of_succ_le this | ((try dsimp only); (try simp only [List.length_cons]); omega)⟩ (fun q hq => hq) D.nd

theorem p_beforeSys_dq  : Run prog w c z ⟨.beforeSys, 34 :: r, ⟨nm, pb, sy, ok⟩, fs, false⟩ ⟨.sysD, r, ⟨nm, pb, (some (Str.ofString "")), ok⟩, fs, false⟩ := by
  intro A s h₀ L m rest R p loose mg mb d hA F D X T₀ hz hr hq hR
  obtain ⟨hvs, e1, e2, e3, e4, e5, hzl, hnb, hpb, hsb, vals, q1, q2, t0, t1, v2, v3, ht, hp, hsy⟩ := hr.starts hz hq
  refine st_enter (f := 731) hA F D X T₀ hz hr.tx (by k_is) (by k_is) rfl rfl rfl (fun g L' h₁ tk₁ m' t u F hs hd D X T hA => ?_) (by decide)
  refine wpAny_execs_cons (if_no (t_sp F D X T hd (by rfl)) fun h₂ tk₂ F D => ?_)
  refine wpAny_execs_cons (if_yes (t_eq F D hd (one_yes rfl)) fun h₂ tk₂ F D => ?_)
  refine wpAny_execs_cons (op_tokstr F X D hs ht (tkl_len _ _ _ _ _) fun h₂ tk₂ o' tn F D ht => ?_)
  rw [tkl_ssys] at ht
  refine wpAny_execs_cons (op_state (st_fn _ .sysD) F X D hs fun h₃ tk₃ mu F D => ?_)
  refine wpAny_execs_nil ?_
  refine wpAny_execs_nil ?_
  exact st_ret hR F D ⟨⟨mu, rfl, .head _⟩, hr.tx.step u, ⟨_, _, _, _, ht, hp, ⟨_, rfl⟩⟩, ⟨_, q1.mono fun q hq => .tail _ hq, by simp only [q2] <;> rfl⟩, (by first | exact hnb | exact Nat.le_of_succ_le hnb | ((try dsimp only); (try simp only [List.length_cons]); omega)), fun y hy => by have := hpb y hy; first | exact this | exact Nat.le_of_succ_le this | ((try dsimp only); (try simp only [List.length_cons]); omega), fun y hy => by cases hy; show 0 + r.length ≤ 9000; omega⟩ (fun q hq => .tail _ hq) D.nd

theorem p_beforeSys_sq  : Run prog w c z ⟨.beforeSys, 39 :: r, ⟨nm, pb, sy, ok⟩, fs, false⟩ ⟨.sysS, r, ⟨nm, pb, (some (Str.ofString "")), ok⟩, fs, false⟩ := by
  intro A s h₀ L m rest R p loose mg mb d hA F D X T₀ hz hr hq hR
  obtain ⟨hvs, e1, e2, e3, e4, e5, hzl, hnb, hpb, hsb, vals, q1, q2, t0, t1, v2, v3, ht, hp, hsy⟩ := hr.starts hz hq
  refine st_enter (f := 731) hA F D X T₀ hz hr.tx (by k_is) (by k_is) rfl rfl rfl (fun g L' h₁ tk₁ m' t u F hs hd D X T hA => ?_) (by decide)
  refine wpAny_execs_cons (if_no (t_sp F D X T hd (by rfl)) fun h₂ tk₂ F D => ?_)
  refine wpAny_execs_cons (if_no (t_eq F D hd (one_ne (by decide) rfl)) fun h₂ tk₂ F D => ?_)
  refine wpAny_execs_cons (if_yes (t_eq F D hd (one_yes rfl)) fun h₂ tk₂ F D => ?_)
  refine wpAny_execs_cons (op_tokstr F X D hs ht (tkl_len _ _ _ _ _) fun h₂ tk₂ o' tn F D ht => ?_)
  rw [tkl_ssys] at ht
  refine wpAny_execs_cons (op_state (st_fn _ .sysS) F X D hs fun h₃ tk₃ mu F D => ?_)
  refine wpAny_execs_nil ?_
  refine wpAny_execs_nil ?_
  refine wpAny_execs_nil ?_
  exact st_ret hR F D ⟨⟨mu, rfl, .head _⟩, hr.tx.step u, ⟨_, _, _, _, ht, hp, ⟨_, rfl⟩⟩, ⟨_, q1.mono fun q hq => .tail _ hq, by simp only [q2] <;> rfl⟩, (by first | exact hnb | exact Nat.le_of_succ_le hnb | ((try dsimp only); (try simp only [List.length_cons]); omega)), fun y hy => by have := hpb y hy; first | exact this | exact Nat.le_of_succ_le this | ((try dsimp only); (try simp only [List.length_cons]); omega), fun y hy => by cases hy; show 0 + r.length ≤ 9000; omega⟩ (fun q hq => .tail _ hq) D.nd

theorem p_sysD_dq  : Run prog w c z ⟨.sysD, 34 :: r, ⟨nm, pb, sy, ok⟩, fs, false⟩ ⟨.afterSysId, r, ⟨nm, pb, sy, ok⟩, fs, false⟩ := by
  intro A s h₀ L m rest R p loose mg mb d hA F D X T₀ hz hr hq hR
  obtain ⟨hvs, e1, e2, e3, e4, e5, hzl, hnb, hpb, hsb, vals, q1, q2, t0, t1, v2, v3, ht, hp, hsy⟩ := hr.starts hz hq
  refine st_enter (f := 738) hA F D X T₀ hz hr.tx (by k_is) (by k_is) rfl rfl rfl (fun g L' h₁ tk₁ m' t u F hs hd D X T hA => ?_) (by decide)
  refine wpAny_execs_cons (if_yes (t_eq F D hd (one_yes rfl)) fun h₂ tk₂ F D => ?_)
  refine wpAny_execs_cons (op_state (st_fn _ .afterSysId) F X D hs fun h₃ tk₃ mu F D => ?_)
  refine wpAny_execs_nil ?_
  exact st_ret hR F D ⟨⟨mu, rfl, .head _⟩, hr.tx.step u, ⟨_, _, _, _, ht, hp, hsy⟩, ⟨_, q1.mono fun q hq => .tail _ hq, by simp only [q2] <;> rfl⟩, (by first | exact hnb | exact Nat.le_of_succ_le hnb | ((try dsimp only); (try simp only [List.length_cons]); omega)), fun y hy => by have := hpb y hy; first | exact this | exact Nat.le_of_succ_le this | ((try dsimp only); (try simp only [List.length_cons]); omega), fun y hy => by have := hsb y hy; first | exact this | exact Nat.le_of_succ_le this | ((try dsimp only); (try simp only [List.length_cons]); omega)⟩ (fun q hq => .tail _ hq) D.nd

theorem p_sysD_nul {x : Str}  : Run prog w c z ⟨.sysD, 0 :: r, ⟨nm, pb, (some x), ok⟩, fs, false⟩ ⟨.sysD, r, ⟨nm, pb, (some (x ++ one 65533)), ok⟩, fs ++ [Str.ofString "invalid-codepoint"], false⟩ := by
  intro A s h₀ L m rest R p loose mg mb d hA F D X T₀ hz hr hq hR
  obtain ⟨hvs, e1, e2, e3, e4, e5, hzl, hnb, hpb, hsb, vals, q1, q2, t0, t1, v2, v3, ht, hp, hsy⟩ := hr.starts hz hq
  refine st_enter (f := 738) hA F D X T₀ hz hr.tx (by k_is) (by k_is) rfl rfl rfl (fun g L' h₁ tk₁ m' t u F hs hd D X T hA => ?_) (by decide)
  have hsx := hsb _ rfl
  refine wpAny_execs_cons (if_no (t_eq F D hd (one_ne (by decide) rfl)) fun h₂ tk₂ F D => ?_)
  refine wpAny_execs_cons (if_yes (t_eq F D hd (one_yes rfl)) fun h₂ tk₂ F D => ?_)
  refine wpAny_execs_cons (op_err F X T D hs (Nat.le_trans hvs (by decide)) fun h₂ tk₂ b o F D he => ?_)
  have q1 := q1.push (b := b) he
  obtain ⟨tx0, rfl⟩ := hsy
  refine wpAny_execs_cons (op_tokauglit F X D hs ht (tkl_len _ _ _ _ _) (tkl_sys _ _ _ _ _) (by rw [fffd]; show _ + 1 ≤ _; omega) fun h₂ tk₂ o' tn F D ht => ?_)
  rw [tkl_ssys] at ht
  rw [fffd] at ht
  refine wpAny_execs_nil ?_
  refine wpAny_execs_nil ?_
  exact st_ret hR F D ⟨let ⟨mu, q3, q4⟩ := hr.st; ⟨mu, q3, .tail _ q4⟩, hr.tx.step u, ⟨_, _, _, _, ht, hp, ⟨_, rfl⟩⟩, ⟨_, q1, by simp only [q2] <;> rfl⟩, (by first | exact hnb | exact Nat.le_of_succ_le hnb | ((try dsimp only); (try simp only [List.length_cons]); omega)), fun y hy => by have := hpb y hy; first | exact this | exact Nat.le_of_succ_le this | ((try dsimp only); (try simp only [List.length_cons]); omega), fun y hy => by cases hy; show _ + r.length ≤ 9000; rw [len_one]; omega⟩ (fun q hq => .tail _ hq) D.nd

theorem p_sysD_c {ch : Nat} {x : Str} (n34 : ch ≠ 34) (n0 : ch ≠ 0) (n62 : ch ≠ 62) : Run prog w c z ⟨.sysD, ch :: r, ⟨nm, pb, (some x), ok⟩, fs, false⟩ ⟨.sysD, r, ⟨nm, pb, (some (x ++ one ch)), ok⟩, fs, false⟩ := by
  intro A s h₀ L m rest R p loose mg mb d hA F D X T₀ hz hr hq hR
  obtain ⟨hvs, e1, e2, e3, e4, e5, hzl, hnb, hpb, hsb, vals, q1, q2, t0, t1, v2, v3, ht, hp, hsy⟩ := hr.starts hz hq
  refine st_enter (f := 738) hA F D X T₀ hz hr.tx (by k_is) (by k_is) rfl rfl rfl (fun g L' h₁ tk₁ m' t u F hs hd D X T hA => ?_) (by decide)
  have hsx := hsb _ rfl
  refine wpAny_execs_cons (if_no (t_eq F D hd (one_ne n34 rfl)) fun h₂ tk₂ F D => ?_)
  refine wpAny_execs_cons (if_no (t_eq F D hd (one_ne n0 rfl)) fun h₂ tk₂ F D => ?_)
  refine wpAny_execs_cons (if_no (t_eq F D hd (one_ne n62 rfl)) fun h₂ tk₂ F D => ?_)
  refine wpAny_execs_cons (if_no (t_eof F D X T hd) fun h₂ tk₂ F D => ?_)
  obtain ⟨tx0, rfl⟩ := hsy
  refine wpAny_execs_cons (op_tokaugvar F X D hs hd ht (tkl_len _ _ _ _ _) (tkl_sys _ _ _ _ _) (by show _ + 1 ≤ _; omega) fun h₂ tk₂ o' tn F D ht => ?_)
  rw [tkl_ssys] at ht
  refine wpAny_execs_nil ?_
  refine wpAny_execs_nil ?_
  refine wpAny_execs_nil ?_
  refine wpAny_execs_nil ?_
  exact st_ret hR F D ⟨hr.st, hr.tx.step u, ⟨_, _, _, _, ht, hp, ⟨_, rfl⟩⟩, ⟨_, q1, by simp only [q2] <;> rfl⟩, (by first | exact hnb | exact Nat.le_of_succ_le hnb | ((try dsimp only); (try simp only [List.length_cons]); omega)), fun y hy => by have := hpb y hy; first | exact this | exact Nat.le_of_succ_le this | ((try dsimp only); (try simp only [List.length_cons]); omega), fun y hy => by cases hy; show _ + r.length ≤ 9000; rw [len_one]; omega⟩ (fun q hq => hq) D.nd

theorem p_sysS_sq  : Run prog w c z ⟨.sysS, 39 :: r, ⟨nm, pb, sy, ok⟩, fs, false⟩ ⟨.afterSysId, r, ⟨nm, pb, sy, ok⟩, fs, false⟩ := by
  intro A s h₀ L m rest R p loose mg mb d hA F D X T₀ hz hr hq hR
  obtain ⟨hvs, e1, e2, e3, e4, e5, hzl, hnb, hpb, hsb, vals, q1, q2, t0, t1, v2, v3, ht, hp, hsy⟩ := hr.starts hz hq
  refine st_enter (f := 745) hA F D X T₀ hz hr.tx (by k_is) (by k_is) rfl rfl rfl (fun g L' h₁ tk₁ m' t u F hs hd D X T hA => ?_) (by decide)
  refine wpAny_execs_cons (if_yes (t_eq F D hd (one_yes rfl)) fun h₂ tk₂ F D => ?_)
  refine wpAny_execs_cons (op_state (st_fn _ .afterSysId) F X D hs fun h₃ tk₃ mu F D => ?_)
  refine wpAny_execs_nil ?_
  exact st_ret hR F D ⟨⟨mu, rfl, .head _⟩, hr.tx.step u, ⟨_, _, _, _, ht, hp, hsy⟩, ⟨_, q1.mono fun q hq => .tail _ hq, by simp only [q2] <;> rfl⟩, (by first | exact hnb | exact Nat.le_of_succ_le hnb | ((try dsimp only); (try simp only [List.length_cons]); omega)), fun y hy => by have := hpb y hy; first | exact this | exact Nat.le_of_succ_le this | ((try dsimp only); (try simp only [List.length_cons]); omega), fun y hy => by have := hsb y hy; first | exact this | exact Nat.le_of_succ_le this | ((try dsimp only); (try simp only [List.length_cons]); omega)⟩ (fun q hq => .tail _ hq) D.nd

theorem p_sysS_nul {x : Str}  : Run prog w c z ⟨.sysS, 0 :: r, ⟨nm, pb, (some x), ok⟩, fs, false⟩ ⟨.sysS, r, ⟨nm, pb, (some (x ++ one 65533)), ok⟩, fs ++ [Str.ofString "invalid-codepoint"], false⟩ := by
  intro A s h₀ L m rest R p loose mg mb d hA F D X T₀ hz hr hq hR
  obtain ⟨hvs, e1, e2, e3, e4, e5, hzl, hnb, hpb, hsb, vals, q1, q2, t0, t1, v2, v3, ht, hp, hsy⟩ := hr.starts hz hq
  refine st_enter (f := 745) hA F D X T₀ hz hr.tx (by k_is) (by k_is) rfl rfl rfl (fun g L' h₁ tk₁ m' t u F hs hd D X T hA => ?_) (by decide)
  have hsx := hsb _ rfl
  refine wpAny_execs_cons (if_no (t_eq F D hd (one_ne (by decide) rfl)) fun h₂ tk₂ F D => ?_)
  refine wpAny_execs_cons (if_yes (t_eq F D hd (one_yes rfl)) fun h₂ tk₂ F D => ?_)
  refine wpAny_execs_cons (op_err F X T D hs (Nat.le_trans hvs (by decide)) fun h₂ tk₂ b o F D he => ?_)
  have q1 := q1.push (b := b) he
  obtain ⟨tx0, rfl⟩ := hsy
  refine wpAny_execs_cons (op_tokauglit F X D hs ht (tkl_len _ _ _ _ _) (tkl_sys _ _ _ _ _) (by rw [fffd]; show _ + 1 ≤ _; omega) fun h₂ tk₂ o' tn F D ht => ?_)
  rw [tkl_ssys] at ht
  rw [fffd] at ht
  refine wpAny_execs_nil ?_
  refine wpAny_execs_nil ?_
  exact st_ret hR F D ⟨let ⟨mu, q3, q4⟩ := hr.st; ⟨mu, q3, .tail _ q4⟩, hr.tx.step u, ⟨_, _, _, _, ht, hp, ⟨_, rfl⟩⟩, ⟨_, q1, by simp only [q2] <;> rfl⟩, (by first | exact hnb | exact Nat.le_of_succ_le hnb | ((try dsimp only); (try simp only [List.length_cons]); omega)), fun y hy => by have := hpb y hy; first | exact this | exact Nat.le_of_succ_le this | ((try dsimp only); (try simp only [List.length_cons]); omega), fun y hy => by cases hy; show _ + r.length ≤ 9000; rw [len_one]; omega⟩ (fun q hq => .tail _ hq) D.nd

theorem p_sysS_c {ch : Nat} {x : Str} (n39 : ch ≠ 39) (n0 : ch ≠ 0) (n62 : ch ≠ 62) : Run prog w c z ⟨.sysS, ch :: r, ⟨nm, pb, (some x), ok⟩, fs, false⟩ ⟨.sysS, r, ⟨nm, pb, (some (x ++ one ch)), ok⟩, fs, false⟩ := by
  intro A s h₀ L m rest R p loose mg mb d hA F D X T₀ hz hr hq hR
  obtain ⟨hvs, e1, e2, e3, e4, e5, hzl, hnb, hpb, hsb, vals, q1, q2, t0, t1, v2, v3, ht, hp, hsy⟩ := hr.starts hz hq
  refine st_enter (f := 745) hA F D X T₀ hz hr.tx (by k_is) (by k_is) rfl rfl rfl (fun g L' h₁ tk₁ m' t u F hs hd D X T hA => ?_) (by decide)
  have hsx := hsb _ rfl
  refine wpAny_execs_cons (if_no (t_eq F D hd (one_ne n39 rfl)) fun h₂ tk₂ F D => ?_)
  refine wpAny_execs_cons (if_no (t_eq F D hd (one_ne n0 rfl)) fun h₂ tk₂ F D => ?_)
  refine wpAny_execs_cons (if_no (t_eq F D hd (one_ne n62 rfl)) fun h₂ tk₂ F D => ?_)
  refine wpAny_execs_cons (if_no (t_eof F D X T hd) fun h₂ tk₂ F D => ?_)
  obtain ⟨tx0, rfl⟩ := hsy
  refine wpAny_execs_cons (op_tokaugvar F X D hs hd ht (tkl_len _ _ _ _ _) (tkl_sys _ _ _ _ _) (by show _ + 1 ≤ _; omega) fun h₂ tk₂ o' tn F D ht => ?_)
  rw [tkl_ssys] at ht
  refine wpAny_execs_nil ?_
  refine wpAny_execs_nil ?_
  refine wpAny_execs_nil ?_
  refine wpAny_execs_nil ?_
  exact st_ret hR F D ⟨hr.st, hr.tx.step u, ⟨_, _, _, _, ht, hp, ⟨_, rfl⟩⟩, ⟨_, q1, by simp only [q2] <;> rfl⟩, (by first | exact hnb | exact Nat.le_of_succ_le hnb | ((try dsimp only); (try simp only [List.length_cons]); omega)), fun y hy => by have := hpb y hy; first | exact this | exact Nat.le_of_succ_le this | ((try dsimp only); (try simp only [List.length_cons]); omega), fun y hy => by cases hy; show _ + r.length ≤ 9000; rw [len_one]; omega⟩ (fun q hq => hq) D.nd

theorem p_afterSysId_sp {ch : Nat} (h1 : isSp ch = true) : Run prog w c z ⟨.afterSysId, ch :: r, ⟨nm, pb, sy, ok⟩, fs, false⟩ ⟨.afterSysId, r, ⟨nm, pb, sy, ok⟩, fs, false⟩ := by
  intro A s h₀ L m rest R p loose mg mb d hA F D X T₀ hz hr hq hR
  obtain ⟨hvs, e1, e2, e3, e4, e5, hzl, hnb, hpb, hsb, vals, q1, q2, t0, t1, v2, v3, ht, hp, hsy⟩ := hr.starts hz hq
  refine st_enter (f := 752) hA F D X T₀ hz hr.tx (by k_is) (by k_is) rfl rfl rfl (fun g L' h₁ tk₁ m' t u F hs hd D X T hA => ?_) (by decide)
  refine wpAny_execs_cons (if_yes (t_sp F D X T hd h1) fun h₂ tk₂ F D => ?_)
  refine wpAny_execs_cons (wpAny_Pass ?_)
  refine wpAny_execs_nil ?_
  exact st_ret hR F D ⟨hr.st, hr.tx.step u, ⟨_, _, _, _, ht, hp, hsy⟩, ⟨_, q1, by simp only [q2] <;> rfl⟩, (by first | exact hnb | exact Nat.le_of_succ_le hnb | ((try dsimp only); (try simp only [List.length_cons]); omega)), fun y hy => by have := hpb y hy; first | exact this | exact Nat.le_of_succ_le this | ((try dsimp only); (try simp only [List.length_cons]); omega), fun y hy => by have := hsb y hy; first | exact this | exact Nat.le_of_succ_le this | ((try dsimp only); (try simp only [List.length_cons]); omega)⟩ (fun q hq => hq) D.nd

theorem p_afterSysId_gt  : Run prog w c z ⟨.afterSysId, 62 :: r, ⟨nm, pb, sy, ok⟩, fs, false⟩ ⟨.data, r, ⟨nm, pb, sy, ok⟩, fs, true⟩ := by
  intro A s h₀ L m rest R p loose mg mb d hA F D X T₀ hz hr hq hR
  obtain ⟨hvs, e1, e2, e3, e4, e5, hzl, hnb, hpb, hsb, vals, q1, q2, t0, t1, v2, v3, ht, hp, hsy⟩ := hr.starts hz hq
  refine st_enter (f := 752) hA F D X T₀ hz hr.tx (by k_is) (by k_is) rfl rfl rfl (fun g L' h₁ tk₁ m' t u F hs hd D X T hA => ?_) (by decide)
  refine wpAny_execs_cons (if_no (t_sp F D X T hd (by rfl)) fun h₂ tk₂ F D => ?_)
  refine wpAny_execs_cons (if_yes (t_eq F D hd (one_yes rfl)) fun h₂ tk₂ F D => ?_)
  refine wpAny_execs_cons (op_emit F X D hs (Nat.le_trans hvs (by decide)) fun h₂ tk₂ F D => ?_)
  refine wpAny_execs_cons (op_state (st_fn _ .data) F X D hs fun h₃ tk₃ mu F D => ?_)
  refine wpAny_execs_nil ?_
  refine wpAny_execs_nil ?_
  exact st_ret hR F D ⟨⟨mu, rfl, .head _⟩, hr.tx.step u, ⟨_, _, _, _, ht, hp, hsy⟩, ⟨_, q1.mono fun q hq => .tail _ hq, by simp only [q2] <;> rfl⟩, (by first | exact hnb | exact Nat.le_of_succ_le hnb | ((try dsimp only); (try simp only [List.length_cons]); omega)), fun y hy => by have := hpb y hy; first | exact this | exact Nat.le_of_succ_le this | ((try dsimp only); (try simp only [List.length_cons]); omega), fun y hy => by have := hsb y hy; first | exact this | exact Nat.le_of_succ_le this | ((try dsimp only); (try simp only [List.length_cons]); omega)⟩ (fun q hq => .tail _ hq) D.nd

theorem p_afterSysId_c {ch : Nat} (h1 : isSp ch = false) (n62 : ch ≠ 62) : Run prog w c z ⟨.afterSysId, ch :: r, ⟨nm, pb, sy, ok⟩, fs, false⟩ ⟨.bogus, r, ⟨nm, pb, sy, ok⟩, fs ++ [Str.ofString "unexpected-char-in-doctype"], false⟩ := by
  intro A s h₀ L m rest R p loose mg mb d hA F D X T₀ hz hr hq hR
  obtain ⟨hvs, e1, e2, e3, e4, e5, hzl, hnb, hpb, hsb, vals, q1, q2, t0, t1, v2, v3, ht, hp, hsy⟩ := hr.starts hz hq
  refine st_enter (f := 752) hA F D X T₀ hz hr.tx (by k_is) (by k_is) rfl rfl rfl (fun g L' h₁ tk₁ m' t u F hs hd D X T hA => ?_) (by decide)
  refine wpAny_execs_cons (if_no (t_sp F D X T hd h1) fun h₂ tk₂ F D => ?_)
  refine wpAny_execs_cons (if_no (t_eq F D hd (one_ne n62 rfl)) fun h₂ tk₂ F D => ?_)
  refine wpAny_execs_cons (if_no (t_eof F D X T hd) fun h₂ tk₂ F D => ?_)
  refine wpAny_execs_cons (op_err F X T D hs (Nat.le_trans hvs (by decide)) fun h₂ tk₂ b o F D he => ?_)
  have q1 := q1.push (b := b) he
  refine wpAny_execs_cons (op_state (st_fn _ .bogus) F X D hs fun h₃ tk₃ mu F D => ?_)
  refine wpAny_execs_nil ?_
  refine wpAny_execs_nil ?_
  refine wpAny_execs_nil ?_
  exact st_ret hR F D ⟨⟨mu, rfl, .head _⟩, hr.tx.step u, ⟨_, _, _, _, ht, hp, hsy⟩, ⟨_, q1.mono fun q hq => .tail _ hq, by simp only [q2] <;> rfl⟩, (by first | exact hnb | exact Nat.le_of_succ_le hnb | ((try dsimp only); (try simp only [List.length_cons]); omega)), fun y hy => by have := hpb y hy; first | exact this | exact Nat.le_of_succ_le this | ((try dsimp only); (try simp only [List.length_cons]); omega), fun y hy => by have := hsb y hy; first | exact this | exact Nat.le_of_succ_le this | ((try dsimp only); (try simp only [List.length_cons]); omega)⟩ (fun q hq => .tail _ (.tail _ hq)) D.nd

theorem p_bogus_gt  : Run prog w c z ⟨.bogus, 62 :: r, ⟨nm, pb, sy, ok⟩, fs, false⟩ ⟨.data, r, ⟨nm, pb, sy, ok⟩, fs, true⟩ := by
  intro A s h₀ L m rest R p loose mg mb d hA F D X T₀ hz hr hq hR
  obtain ⟨hvs, e1, e2, e3, e4, e5, hzl, hnb, hpb, hsb, vals, q1, q2, t0, t1, v2, v3, ht, hp, hsy⟩ := hr.starts hz hq
  refine st_enter (f := 759) hA F D X T₀ hz hr.tx (by k_is) (by k_is) rfl rfl rfl (fun g L' h₁ tk₁ m' t u F hs hd D X T hA => ?_) (by decide)
  refine wpAny_execs_cons (if_yes (t_eq F D hd (one_yes rfl)) fun h₂ tk₂ F D => ?_)
  refine wpAny_execs_cons (op_emit F X D hs (Nat.le_trans hvs (by decide)) fun h₂ tk₂ F D => ?_)
  refine wpAny_execs_cons (op_state (st_fn _ .data) F X D hs fun h₃ tk₃ mu F D => ?_)
  refine wpAny_execs_nil ?_
  exact st_ret hR F D ⟨⟨mu, rfl, .head _⟩, hr.tx.step u, ⟨_, _, _, _, ht, hp, hsy⟩, ⟨_, q1.mono fun q hq => .tail _ hq, by simp only [q2] <;> rfl⟩, (by first | exact hnb | exact Nat.le_of_succ_le hnb | ((try dsimp only); (try simp only [List.length_cons]); omega)), fun y hy => by have := hpb y hy; first | exact this | exact Nat.le_of_succ_le this | ((try dsimp only); (try simp only [List.length_cons]); omega), fun y hy => by have := hsb y hy; first | exact this | exact Nat.le_of_succ_le this | ((try dsimp only); (try simp only [List.length_cons]); omega)⟩ (fun q hq => .tail _ hq) D.nd

theorem p_bogus_c {ch : Nat} (n62 : ch ≠ 62) : Run prog w c z ⟨.bogus, ch :: r, ⟨nm, pb, sy, ok⟩, fs, false⟩ ⟨.bogus, r, ⟨nm, pb, sy, ok⟩, fs, false⟩ := by
  intro A s h₀ L m rest R p loose mg mb d hA F D X T₀ hz hr hq hR
  obtain ⟨hvs, e1, e2, e3, e4, e5, hzl, hnb, hpb, hsb, vals, q1, q2, t0, t1, v2, v3, ht, hp, hsy⟩ := hr.starts hz hq
  refine st_enter (f := 759) hA F D X T₀ hz hr.tx (by k_is) (by k_is) rfl rfl rfl (fun g L' h₁ tk₁ m' t u F hs hd D X T hA => ?_) (by decide)
  refine wpAny_execs_cons (if_no (t_eq F D hd (one_ne n62 rfl)) fun h₂ tk₂ F D => ?_)
  refine wpAny_execs_cons (if_no (t_eof F D X T hd) fun h₂ tk₂ F D => ?_)
  refine wpAny_execs_cons (wpAny_Pass ?_)
  refine wpAny_execs_nil ?_
  refine wpAny_execs_nil ?_
  exact st_ret hR F D ⟨hr.st, hr.tx.step u, ⟨_, _, _, _, ht, hp, hsy⟩, ⟨_, q1, by simp only [q2] <;> rfl⟩, (by first | exact hnb | exact Nat.le_of_succ_le hnb | ((try dsimp only); (try simp only [List.length_cons]); omega)), fun y hy => by have := hpb y hy; first | exact this | exact Nat.le_of_succ_le this | ((try dsimp only); (try simp only [List.length_cons]); omega), fun y hy => by have := hsb y hy; first | exact this | exact Nat.le_of_succ_le this | ((try dsimp only); (try simp only [List.length_cons]); omega)⟩ (fun q hq => hq) D.nd
end
end
end Mine
end
-- part MJ
section
open PySem PySem.W PySem.Calls PyProof.Rows
set_option Elab.async false
set_option maxRecDepth 100000
namespace Mine
noncomputable section
/-- so many turns lead from M to M' -/
inductive Reach (prog : Program) (w : World) (c : Cx) (z : SD) : Nat → Mc → Mc → Prop
  | refl (M : Mc) : Reach prog w c z 0 M M
  | step {n : Nat} {M M₁ M' : Mc} (h : Run prog w c z M M₁) (hd : M.done = false) (hf : M.faults.length ≤ 900) (r : Reach prog w c z n M₁ M') : Reach prog w c z (n + 1) M M'
section
variable {prog : Program} {w : World} {c : Cx} {z : SD}
theorem Reach.trans {n k : Nat} {M M' M'' : Mc} (h : Reach prog w c z n M M') (h' : Reach prog w c z k M' M'') : Reach prog w c z (n + k) M M'' := by
  induction h with
  | refl M => rw [Nat.zero_add]; exact h'
  | step h hd hf r ih => rw [Nat.add_right_comm]; exact .step h hd hf (ih h')
theorem Reach.one {M M' : Mc} (h : Run prog w c z M M') (hd : M.done = false) (hf : M.faults.length ≤ 900) : Reach prog w c z 1 M M' := .step h hd hf (.refl _)

/-- a nought becomes the sign of what can't be shown -/
noncomputable def clC (c : Nat) : Nat := if c = 0 then 65533 else c
noncomputable def clS (l : List Nat) : Str := ⟨(l.map clC).toArray⟩
noncomputable def nulls (l : List Nat) : List Str := (l.filter (· == 0)).map fun _ => Str.ofString "invalid-codepoint"
theorem clS_nil : clS [] = Str.ofString "" := rfl
theorem clS_cons (x : Str) (a : Nat) (l : List Nat) : x ++ one (clC a) ++ clS l = x ++ clS (a :: l) := by
  apply Str.ext'
  simp [clS, one, Str.cps_append]
theorem nulls_cons0 (l : List Nat) : nulls (0 :: l) = Str.ofString "invalid-codepoint" :: nulls l := rfl
theorem nulls_cons {a : Nat} (l : List Nat) (h : a ≠ 0) : nulls (a :: l) = nulls l := by simp [nulls, h]
theorem nulls_len (l : List Nat) : (nulls l).length ≤ l.length := by
  unfold nulls
  rw [List.length_map]
  exact List.length_filter_le _ _
variable {r : List Nat} {nm : Str} {pb sy : Option Str} {ok : Bool} {fs : List Str}

/-- blanks where the state stays -/
theorem r_blanks (st : DS) (hrun : ∀ {ch : Nat} {r : List Nat}, isSp ch = true → Run prog w c z ⟨st, ch :: r, ⟨nm, pb, sy, ok⟩, fs, false⟩ ⟨st, r, ⟨nm, pb, sy, ok⟩, fs, false⟩) (hf : fs.length ≤ 900) :
    ∀ bl : List Nat, (∀ x ∈ bl, isSp x = true) → Reach prog w c z bl.length ⟨st, bl ++ r, ⟨nm, pb, sy, ok⟩, fs, false⟩ ⟨st, r, ⟨nm, pb, sy, ok⟩, fs, false⟩
  | [], _ => .refl _
  | x :: bl, h => .step (hrun (h x (.head _))) rfl hf (r_blanks st hrun hf bl fun y hy => h y (.tail _ hy))

/-- the name's signs -/
theorem r_name : ∀ (cs : List Nat) (nm : Str) (fs : List Str), (∀ x ∈ cs, isSp x = false ∧ x ≠ 62) → fs.length + cs.length ≤ 900 →
    Reach prog w c z cs.length ⟨.name, cs ++ r, ⟨nm, pb, sy, ok⟩, fs, false⟩ ⟨.name, r, ⟨nm ++ clS cs, pb, sy, ok⟩, fs ++ nulls cs, false⟩
  | [], nm, fs, _, _ => by
    have e : nm ++ clS [] = nm := by apply Str.ext'; simp [clS, Str.cps_append]
    rw [e, show fs ++ nulls [] = fs from List.append_nil _]
    exact .refl _
  | x :: cs, nm, fs, h, hl => by
    simp only [List.length_cons] at hl
    have hx := h x (.head _)
    rw [← clS_cons]
    by_cases h0 : x = 0
    · subst h0
      have ih := r_name cs (nm ++ one 65533) (fs ++ [Str.ofString "invalid-codepoint"]) (fun y hy => h y (.tail _ hy)) (by rw [List.length_append, List.length_singleton]; omega)
      rw [nulls_cons0, List.append_cons]
      exact .step p_name_nul rfl (by show fs.length ≤ 900; omega) ih
    · have ih := r_name cs (nm ++ one x) fs (fun y hy => h y (.tail _ hy)) (by omega)
      rw [nulls_cons _ h0, show clC x = x from if_neg h0]
      exact .step (p_name_c hx.1 hx.2 h0) rfl (by show fs.length ≤ 900; omega) ih

/-- an identifier's signs: a state that adds them to the public one -/
theorem r_pub (st : DS) (qt : Nat) (hnul : ∀ {r : List Nat} {fs : List Str} {x : Str}, Run prog w c z ⟨st, 0 :: r, ⟨nm, some x, sy, ok⟩, fs, false⟩ ⟨st, r, ⟨nm, some (x ++ one 65533), sy, ok⟩, fs ++ [Str.ofString "invalid-codepoint"], false⟩)
    (hc : ∀ {ch : Nat} {r : List Nat} {fs : List Str} {x : Str}, ch ≠ qt → ch ≠ 0 → ch ≠ 62 → Run prog w c z ⟨st, ch :: r, ⟨nm, some x, sy, ok⟩, fs, false⟩ ⟨st, r, ⟨nm, some (x ++ one ch), sy, ok⟩, fs, false⟩) :
    ∀ (cs : List Nat) (x : Str) (fs : List Str), (∀ y ∈ cs, y ≠ qt ∧ y ≠ 62) → fs.length + cs.length ≤ 900 →
    Reach prog w c z cs.length ⟨st, cs ++ r, ⟨nm, some x, sy, ok⟩, fs, false⟩ ⟨st, r, ⟨nm, some (x ++ clS cs), sy, ok⟩, fs ++ nulls cs, false⟩
  | [], x, fs, _, _ => by
    have e : x ++ clS [] = x := by apply Str.ext'; simp [clS, Str.cps_append]
    rw [e, show fs ++ nulls [] = fs from List.append_nil _]
    exact .refl _
  | y :: cs, x, fs, h, hl => by
    simp only [List.length_cons] at hl
    have hx := h y (.head _)
    rw [← clS_cons]
    by_cases h0 : y = 0
    · subst h0
      have ih := r_pub st qt hnul hc cs (x ++ one 65533) (fs ++ [Str.ofString "invalid-codepoint"]) (fun y hy => h y (.tail _ hy)) (by rw [List.length_append, List.length_singleton]; omega)
      rw [nulls_cons0, List.append_cons]
      exact .step hnul rfl (by show fs.length ≤ 900; omega) ih
    · have ih := r_pub st qt hnul hc cs (x ++ one y) fs (fun y hy => h y (.tail _ hy)) (by omega)
      rw [nulls_cons _ h0, show clC y = y from if_neg h0]
      exact .step (hc hx.1 h0 hx.2) rfl (by show fs.length ≤ 900; omega) ih
theorem r_sys (st : DS) (qt : Nat) (hnul : ∀ {r : List Nat} {fs : List Str} {x : Str}, Run prog w c z ⟨st, 0 :: r, ⟨nm, pb, some x, ok⟩, fs, false⟩ ⟨st, r, ⟨nm, pb, some (x ++ one 65533), ok⟩, fs ++ [Str.ofString "invalid-codepoint"], false⟩)
    (hc : ∀ {ch : Nat} {r : List Nat} {fs : List Str} {x : Str}, ch ≠ qt → ch ≠ 0 → ch ≠ 62 → Run prog w c z ⟨st, ch :: r, ⟨nm, pb, some x, ok⟩, fs, false⟩ ⟨st, r, ⟨nm, pb, some (x ++ one ch), ok⟩, fs, false⟩) :
    ∀ (cs : List Nat) (x : Str) (fs : List Str), (∀ y ∈ cs, y ≠ qt ∧ y ≠ 62) → fs.length + cs.length ≤ 900 →
    Reach prog w c z cs.length ⟨st, cs ++ r, ⟨nm, pb, some x, ok⟩, fs, false⟩ ⟨st, r, ⟨nm, pb, some (x ++ clS cs), ok⟩, fs ++ nulls cs, false⟩
  | [], x, fs, _, _ => by
    have e : x ++ clS [] = x := by apply Str.ext'; simp [clS, Str.cps_append]
    rw [e, show fs ++ nulls [] = fs from List.append_nil _]
    exact .refl _
  | y :: cs, x, fs, h, hl => by
    simp only [List.length_cons] at hl
    have hx := h y (.head _)
    rw [← clS_cons]
    by_cases h0 : y = 0
    · subst h0
      have ih := r_sys st qt hnul hc cs (x ++ one 65533) (fs ++ [Str.ofString "invalid-codepoint"]) (fun y hy => h y (.tail _ hy)) (by rw [List.length_append, List.length_singleton]; omega)
      rw [nulls_cons0, List.append_cons]
      exact .step hnul rfl (by show fs.length ≤ 900; omega) ih
    · have ih := r_sys st qt hnul hc cs (x ++ one y) fs (fun y hy => h y (.tail _ hy)) (by omega)
      rw [nulls_cons _ h0, show clC y = y from if_neg h0]
      exact .step (hc hx.1 h0 hx.2) rfl (by show fs.length ≤ 900; omega) ih

/-- a quoted identifier from its quote on -/
inductive Quot : Nat → Prop | s : Quot 39 | d : Quot 34
theorem r_pubid {qt : Nat} (hq : Quot qt) (cs : List Nat) (h : ∀ y ∈ cs, y ≠ qt ∧ y ≠ 62) (hl : fs.length + cs.length ≤ 900) :
    Reach prog w c z (cs.length + 2) ⟨.beforePub, qt :: (cs ++ qt :: r), ⟨nm, pb, sy, ok⟩, fs, false⟩ ⟨.afterPubId, r, ⟨nm, some (clS cs), sy, ok⟩, fs ++ nulls cs, false⟩ := by
  have e : Str.ofString "" ++ clS cs = clS cs := by apply Str.ext'; simp [clS, Str.cps_append]; rfl
  have hf : (fs ++ nulls cs).length ≤ 900 := by have := nulls_len cs; rw [List.length_append]; omega
  cases hq
  · have h2 := (r_pub (prog := prog) (w := w) (c := c) (z := z) (sy := sy) (ok := ok) (nm := nm) .pubS 39 p_pubS_nul (fun a b d => p_pubS_c a b d) cs (Str.ofString "") fs h hl (r := 39 :: r)).trans (.one p_pubS_sq rfl hf)
    rw [e] at h2
    exact .step p_beforePub_sq rfl (by show fs.length ≤ 900; omega) h2
  · have h2 := (r_pub (prog := prog) (w := w) (c := c) (z := z) (sy := sy) (ok := ok) (nm := nm) .pubD 34 p_pubD_nul (fun a b d => p_pubD_c a b d) cs (Str.ofString "") fs h hl (r := 34 :: r)).trans (.one p_pubD_dq rfl hf)
    rw [e] at h2
    exact .step p_beforePub_dq rfl (by show fs.length ≤ 900; omega) h2
theorem r_sysid (st : DS) {qt : Nat} (hq : Quot qt) (hs : ∀ {r : List Nat}, Run prog w c z ⟨st, 39 :: r, ⟨nm, pb, sy, ok⟩, fs, false⟩ ⟨.sysS, r, ⟨nm, pb, some (Str.ofString ""), ok⟩, fs, false⟩)
    (hd : ∀ {r : List Nat}, Run prog w c z ⟨st, 34 :: r, ⟨nm, pb, sy, ok⟩, fs, false⟩ ⟨.sysD, r, ⟨nm, pb, some (Str.ofString ""), ok⟩, fs, false⟩) (cs : List Nat) (h : ∀ y ∈ cs, y ≠ qt ∧ y ≠ 62) (hl : fs.length + cs.length ≤ 900) :
    Reach prog w c z (cs.length + 2) ⟨st, qt :: (cs ++ qt :: r), ⟨nm, pb, sy, ok⟩, fs, false⟩ ⟨.afterSysId, r, ⟨nm, pb, some (clS cs), ok⟩, fs ++ nulls cs, false⟩ := by
  have e : Str.ofString "" ++ clS cs = clS cs := by apply Str.ext'; simp [clS, Str.cps_append]; rfl
  have hf : (fs ++ nulls cs).length ≤ 900 := by have := nulls_len cs; rw [List.length_append]; omega
  cases hq
  · have h2 := (r_sys (prog := prog) (w := w) (c := c) (z := z) (pb := pb) (ok := ok) (nm := nm) .sysS 39 p_sysS_nul (fun a b d => p_sysS_c a b d) cs (Str.ofString "") fs h hl (r := 39 :: r)).trans (.one p_sysS_sq rfl hf)
    rw [e] at h2
    exact .step hs rfl (by show fs.length ≤ 900; omega) h2
  · have h2 := (r_sys (prog := prog) (w := w) (c := c) (z := z) (pb := pb) (ok := ok) (nm := nm) .sysD 34 p_sysD_nul (fun a b d => p_sysD_c a b d) cs (Str.ofString "") fs h hl (r := 34 :: r)).trans (.one p_sysD_dq rfl hf)
    rw [e] at h2
    exact .step hd rfl (by show fs.length ≤ 900; omega) h2

noncomputable def gapF (g : List Nat) (x : Str) : List Str := if g = [] then [x] else []
theorem gapF_len (g : List Nat) (x : Str) : (gapF g x).length ≤ 1 := by unfold gapF; split <;> simp

/-- the word is read: blanks, the name, a blank -/
theorem r_start (g cs : List Nat) (hg : ∀ x ∈ g, isSp x = true) (hcs : ∀ x ∈ cs, isSp x = false ∧ x ≠ 62) (hne : cs ≠ []) (hlen : cs.length ≤ 100) :
    ∃ k, k ≤ g.length + cs.length + 2 ∧ Reach prog w c z k ⟨.doctype, g ++ (cs ++ 32 :: r), ⟨nm, pb, sy, ok⟩, [], false⟩ ⟨.afterName, r, ⟨lowS (clS cs), pb, sy, ok⟩, gapF g (Str.ofString "need-space-after-doctype") ++ nulls cs, false⟩ := by
  obtain ⟨x, cs', rfl⟩ := List.exists_cons_of_ne_nil hne
  have hx := hcs x (.head _)
  have hcs' : ∀ y ∈ cs', isSp y = false ∧ y ≠ 62 := fun y hy => hcs y (.tail _ hy)
  simp only [List.length_cons] at hlen ⊢
  have name : ∀ (fs : List Str), fs.length ≤ 1 → Reach prog w c z (1 + cs'.length + 1) ⟨.beforeName, x :: cs' ++ 32 :: r, ⟨nm, pb, sy, ok⟩, fs, false⟩ ⟨.afterName, r, ⟨lowS (clS (x :: cs')), pb, sy, ok⟩, fs ++ nulls (x :: cs'), false⟩ := by
    intro fs hf
    have hn := nulls_len cs'
    have e1 : ∀ a, clC x = a → one a ++ clS cs' = clS (x :: cs') := by
      rintro a rfl
      apply Str.ext'; simp [clS, one, Str.cps_append]
    by_cases h0 : x = 0
    · subst h0
      rw [← e1 _ rfl, nulls_cons0, List.append_cons fs]
      refine ((Reach.one p_beforeName_nul rfl (by show fs.length ≤ 900; omega)).trans (r_name cs' (one 65533) (fs ++ [Str.ofString "invalid-codepoint"]) hcs' (by rw [List.length_append, List.length_singleton]; omega) (r := 32 :: r))).trans (.one (p_name_sp rfl) rfl ?_)
      show (fs ++ [Str.ofString "invalid-codepoint"] ++ nulls cs').length ≤ 900
      rw [List.length_append, List.length_append, List.length_singleton]; omega
    · rw [← e1 _ rfl, nulls_cons _ h0, show clC x = x from if_neg h0]
      refine ((Reach.one (p_beforeName_c hx.1 hx.2 h0) rfl (by show fs.length ≤ 900; omega)).trans (r_name cs' (one x) fs hcs' (by omega) (r := 32 :: r))).trans (.one (p_name_sp rfl) rfl ?_)
      show (fs ++ nulls cs').length ≤ 900
      rw [List.length_append]; omega
  cases g with
  | nil => exact ⟨_, by simp; omega, (Reach.one (p_doctype_c hx.1) rfl (by show 0 ≤ 900; omega)).trans (name _ (by simp))⟩
  | cons y g' =>
    refine ⟨_, ?_, ((Reach.one (p_doctype_sp (hg y (.head _))) rfl (by show 0 ≤ 900; omega)).trans (r_blanks .beforeName (fun h => p_beforeName_sp h) (by show 0 ≤ 900; omega) g' fun z hz => hg z (.tail _ hz))).trans (name [] (by simp))⟩
    simp; omega
end
end
end Mine
end
-- part MK
section
open PySem PySem.W PySem.Calls PyProof.Rows
set_option Elab.async false
set_option maxRecDepth 100000
namespace Mine
noncomputable section
section
variable {prog : Program} {w : World} {c : Cx} {z : SD} {r : List Nat} {nm : Str} {pb sy : Option Str} {ok : Bool} {fs : List Str}
abbrev oddS : Str := Str.ofString "unexpected-char-in-doctype"
abbrev expS : Str := Str.ofString "expected-space-or-right-bracket-in-doctype"
theorem quot_or {qt : Nat} (h : Quot qt) : qt = 39 ∨ qt = 34 := by cases h <;> simp
theorem gapF_app (g : List Nat) (x : Str) : fs.length + (gapF g x).length ≤ fs.length + 1 := by have := gapF_len g x; omega

theorem r_afterPub (g : List Nat) {qt : Nat} (hq : Quot qt) (hg : ∀ x ∈ g, isSp x = true) (hf : fs.length ≤ 800) :
    ∃ k, k ≤ g.length + 1 ∧ Reach prog w c z k ⟨.afterPub, g ++ qt :: r, ⟨nm, pb, sy, ok⟩, fs, false⟩ ⟨.beforePub, qt :: r, ⟨nm, pb, sy, ok⟩, fs ++ gapF g oddS, false⟩ := by
  cases g with
  | nil => exact ⟨1, by simp, .one (p_afterPub_qu (quot_or hq)) rfl (by show fs.length ≤ 900; omega)⟩
  | cons y g' =>
    refine ⟨1 + g'.length, by simp; omega, ?_⟩
    · have h := (Reach.one (p_afterPub_sp (prog := prog) (w := w) (c := c) (z := z) (r := g' ++ qt :: r) (nm := nm) (pb := pb) (sy := sy) (ok := ok) (fs := fs) (hg y (.head _))) rfl (by show fs.length ≤ 900; omega)).trans (r_blanks .beforePub (fun h => p_beforePub_sp h) (by omega) g' fun z hz => hg z (.tail _ hz))
      rw [show fs ++ gapF (y :: g') oddS = fs from List.append_nil _]
      exact h
theorem r_afterSys (g : List Nat) {qt : Nat} (hq : Quot qt) (hg : ∀ x ∈ g, isSp x = true) (hf : fs.length ≤ 800) :
    ∃ k, k ≤ g.length + 1 ∧ Reach prog w c z k ⟨.afterSys, g ++ qt :: r, ⟨nm, pb, sy, ok⟩, fs, false⟩ ⟨.beforeSys, qt :: r, ⟨nm, pb, sy, ok⟩, fs ++ gapF g oddS, false⟩ := by
  cases g with
  | nil => exact ⟨1, by simp, .one (p_afterSys_qu (quot_or hq)) rfl (by show fs.length ≤ 900; omega)⟩
  | cons y g' =>
    refine ⟨1 + g'.length, by simp; omega, ?_⟩
    · have h := (Reach.one (p_afterSys_sp (prog := prog) (w := w) (c := c) (z := z) (r := g' ++ qt :: r) (nm := nm) (pb := pb) (sy := sy) (ok := ok) (fs := fs) (hg y (.head _))) rfl (by show fs.length ≤ 900; omega)).trans (r_blanks .beforeSys (fun h => p_beforeSys_sp h) (by omega) g' fun z hz => hg z (.tail _ hz))
      rw [show fs ++ gapF (y :: g') oddS = fs from List.append_nil _]
      exact h

/-- a second identifier behind the public one -/
theorem r_second (g cs : List Nat) {qt : Nat} (hq : Quot qt) (hg : ∀ x ∈ g, isSp x = true) (h : ∀ y ∈ cs, y ≠ qt ∧ y ≠ 62) (hf : fs.length ≤ 700) (hl : cs.length ≤ 100) :
    ∃ k, k ≤ g.length + cs.length + 2 ∧ Reach prog w c z k ⟨.afterPubId, g ++ qt :: (cs ++ qt :: r), ⟨nm, pb, sy, ok⟩, fs, false⟩ ⟨.afterSysId, r, ⟨nm, pb, some (clS cs), ok⟩, fs ++ gapF g oddS ++ nulls cs, false⟩ := by
  cases g with
  | nil =>
    have e : Str.ofString "" ++ clS cs = clS cs := by apply Str.ext'; simp [clS, Str.cps_append]; rfl
    have hn := nulls_len cs
    have hf1 : (fs ++ [oddS]).length ≤ 701 := by rw [List.length_append, List.length_singleton]; omega
    have hf2 : (fs ++ [oddS] ++ nulls cs).length ≤ 900 := by rw [List.length_append]; omega
    refine ⟨cs.length + 2, by simp, ?_⟩
    cases hq
    · have h2 := (r_sys (prog := prog) (w := w) (c := c) (z := z) (pb := pb) (ok := ok) (nm := nm) .sysS 39 p_sysS_nul (fun a b d => p_sysS_c a b d) cs (Str.ofString "") (fs ++ [oddS]) h (by omega) (r := 39 :: r)).trans (.one p_sysS_sq rfl hf2)
      rw [e] at h2
      exact .step p_afterPubId_sq rfl (by show fs.length ≤ 900; omega) h2
    · have h2 := (r_sys (prog := prog) (w := w) (c := c) (z := z) (pb := pb) (ok := ok) (nm := nm) .sysD 34 p_sysD_nul (fun a b d => p_sysD_c a b d) cs (Str.ofString "") (fs ++ [oddS]) h (by omega) (r := 34 :: r)).trans (.one p_sysD_dq rfl hf2)
      rw [e] at h2
      exact .step p_afterPubId_dq rfl (by show fs.length ≤ 900; omega) h2
  | cons y g' =>
    rw [show fs ++ gapF (y :: g') oddS = fs from List.append_nil _]
    refine ⟨1 + g'.length + (cs.length + 2), by simp; omega, ?_⟩
    exact ((Reach.one (p_afterPubId_sp (hg y (.head _))) rfl (by show fs.length ≤ 900; omega)).trans (r_blanks .between (fun h => p_between_sp h) (by omega) g' fun z hz => hg z (.tail _ hz))).trans
      (r_sysid .between hq p_between_sq p_between_dq cs h (by omega))

/-- what doesn't belong there, and the end -/
theorem r_bogus (hf : fs.length ≤ 900) : ∀ j : List Nat, (∀ x ∈ j, x ≠ 62) → Reach prog w c z (j.length + 1) ⟨.bogus, j ++ 62 :: r, ⟨nm, pb, sy, ok⟩, fs, false⟩ ⟨.data, r, ⟨nm, pb, sy, ok⟩, fs, true⟩
  | [], _ => .one p_bogus_gt rfl hf
  | x :: j, h => .step (p_bogus_c (h x (.head _))) rfl hf (r_bogus hf j fun y hy => h y (.tail _ hy))

/-- a sign that opens what doesn't belong -/
noncomputable def junkC (x : Nat) : Prop := isSp x = false ∧ x ≠ 62 ∧ x ≠ 34 ∧ x ≠ 39 ∧ x ≠ 112 ∧ x ≠ 80 ∧ x ≠ 115 ∧ x ≠ 83
structure JunkOk (j : List Nat) : Prop where
  first : ∀ x, j.head? = some x → junkC x
  gt : ∀ x ∈ j, x ≠ 62
theorem r_end0 (g j : List Nat) (hg : ∀ x ∈ g, isSp x = true) (hj : JunkOk j) (hf : fs.length ≤ 800) :
    ∃ k, k ≤ g.length + j.length + 2 ∧ Reach prog w c z k ⟨.afterName, g ++ (j ++ 62 :: r), ⟨nm, pb, sy, ok⟩, fs, false⟩ ⟨.data, r, ⟨nm, pb, sy, if j = [] then ok else false⟩, fs ++ (if j = [] then [] else [expS]), true⟩ := by
  have hb := r_blanks (prog := prog) (w := w) (c := c) (z := z) (r := j ++ 62 :: r) (nm := nm) (pb := pb) (sy := sy) (ok := ok) (fs := fs) .afterName (fun h => p_afterName_sp h) (by omega) g hg
  cases j with
  | nil =>
    rw [if_pos rfl, if_pos rfl, List.append_nil]
    exact ⟨_, by simp, hb.trans (.one p_afterName_gt rfl (by show fs.length ≤ 900; omega))⟩
  | cons x j =>
    obtain ⟨a1, a2, a3, a4, a5, a6, a7, a8⟩ := hj.first x rfl
    rw [if_neg (List.cons_ne_nil _ _), if_neg (List.cons_ne_nil _ _)]
    have h2 := (Reach.one (p_afterName_c (prog := prog) (w := w) (c := c) (z := z) (r := j ++ 62 :: r) (nm := nm) (pb := pb) (sy := sy) (ok := ok) (fs := fs) a1 a2 a5 a6 a7 a8) rfl (by show fs.length ≤ 900; omega)).trans (r_bogus (by rw [List.length_append, List.length_singleton]; omega) (x :: j) hj.gt)
    exact ⟨_, by simp; omega, hb.trans h2⟩
theorem r_end1 (g j : List Nat) (hg : ∀ x ∈ g, isSp x = true) (hj : JunkOk j) (hf : fs.length ≤ 800) :
    ∃ k, k ≤ g.length + j.length + 2 ∧ Reach prog w c z k ⟨.afterPubId, g ++ (j ++ 62 :: r), ⟨nm, pb, sy, ok⟩, fs, false⟩ ⟨.data, r, ⟨nm, pb, sy, if j = [] then ok else false⟩, fs ++ (if j = [] then [] else [oddS]), true⟩ := by
  cases g with
  | nil =>
    cases j with
    | nil =>
      rw [if_pos rfl, if_pos rfl, List.append_nil]
      exact ⟨1, by simp, .one p_afterPubId_gt rfl (by show fs.length ≤ 900; omega)⟩
    | cons x j =>
      obtain ⟨a1, a2, a3, a4, a5, a6, a7, a8⟩ := hj.first x rfl
      rw [if_neg (List.cons_ne_nil _ _), if_neg (List.cons_ne_nil _ _)]
      have h2 := (Reach.one (p_afterPubId_c (prog := prog) (w := w) (c := c) (z := z) (r := j ++ 62 :: r) (nm := nm) (pb := pb) (sy := sy) (ok := ok) (fs := fs) a1 a2 a3 a4) rfl (by show fs.length ≤ 900; omega)).trans (r_bogus (by rw [List.length_append, List.length_singleton]; omega) j fun y hy => hj.gt y (.tail _ hy))
      exact ⟨_, by simp; omega, h2⟩
  | cons y g' =>
    have hb := (Reach.one (p_afterPubId_sp (prog := prog) (w := w) (c := c) (z := z) (r := g' ++ (j ++ 62 :: r)) (nm := nm) (pb := pb) (sy := sy) (ok := ok) (fs := fs) (hg y (.head _))) rfl (by show fs.length ≤ 900; omega)).trans (r_blanks .between (fun h => p_between_sp h) (by omega) g' fun z hz => hg z (.tail _ hz))
    cases j with
    | nil =>
      rw [if_pos rfl, if_pos rfl, List.append_nil]
      exact ⟨_, by simp; omega, hb.trans (.one p_between_gt rfl (by show fs.length ≤ 900; omega))⟩
    | cons x j =>
      obtain ⟨a1, a2, a3, a4, a5, a6, a7, a8⟩ := hj.first x rfl
      rw [if_neg (List.cons_ne_nil _ _), if_neg (List.cons_ne_nil _ _)]
      have h2 := (Reach.one (p_between_c (prog := prog) (w := w) (c := c) (z := z) (r := j ++ 62 :: r) (nm := nm) (pb := pb) (sy := sy) (ok := ok) (fs := fs) a1 a2 a3 a4) rfl (by show fs.length ≤ 900; omega)).trans (r_bogus (by rw [List.length_append, List.length_singleton]; omega) j fun y hy => hj.gt y (.tail _ hy))
      exact ⟨_, by simp; omega, hb.trans h2⟩
theorem r_end2 (g j : List Nat) (hg : ∀ x ∈ g, isSp x = true) (hj : JunkOk j) (hf : fs.length ≤ 800) :
    ∃ k, k ≤ g.length + j.length + 2 ∧ Reach prog w c z k ⟨.afterSysId, g ++ (j ++ 62 :: r), ⟨nm, pb, sy, ok⟩, fs, false⟩ ⟨.data, r, ⟨nm, pb, sy, ok⟩, fs ++ (if j = [] then [] else [oddS]), true⟩ := by
  have hb := r_blanks (prog := prog) (w := w) (c := c) (z := z) (r := j ++ 62 :: r) (nm := nm) (pb := pb) (sy := sy) (ok := ok) (fs := fs) .afterSysId (fun h => p_afterSysId_sp h) (by omega) g hg
  cases j with
  | nil =>
    rw [if_pos rfl, List.append_nil]
    exact ⟨_, by simp, hb.trans (.one p_afterSysId_gt rfl (by show fs.length ≤ 900; omega))⟩
  | cons x j =>
    obtain ⟨a1, a2, a3, a4, a5, a6, a7, a8⟩ := hj.first x rfl
    rw [if_neg (List.cons_ne_nil _ _)]
    have h2 := (Reach.one (p_afterSysId_c (prog := prog) (w := w) (c := c) (z := z) (r := j ++ 62 :: r) (nm := nm) (pb := pb) (sy := sy) (ok := ok) (fs := fs) a1 a2) rfl (by show fs.length ≤ 900; omega)).trans (r_bogus (by rw [List.length_append, List.length_singleton]; omega) j fun y hy => hj.gt y (.tail _ hy))
    exact ⟨_, by simp; omega, hb.trans h2⟩
end
end
end Mine
end
-- part ML
section
open PySem PySem.W PySem.Calls PyProof.Rows
set_option Elab.async false
set_option maxRecDepth 100000
namespace Mine
noncomputable section
/-- the word PUBLIC, the word SYSTEM, in letters of any size -/
noncomputable def IsPub (k : List Nat) : Prop := ∃ a b c d e f, k = [a, b, c, d, e, f] ∧ (a = 112 ∨ a = 80) ∧ (b = 117 ∨ b = 85) ∧ (c = 98 ∨ c = 66) ∧ (d = 108 ∨ d = 76) ∧ (e = 105 ∨ e = 73) ∧ (f = 99 ∨ f = 67)
noncomputable def IsSys (k : List Nat) : Prop := ∃ a b c d e f, k = [a, b, c, d, e, f] ∧ (a = 115 ∨ a = 83) ∧ (b = 121 ∨ b = 89) ∧ (c = 115 ∨ c = 83) ∧ (d = 116 ∨ d = 84) ∧ (e = 101 ∨ e = 69) ∧ (f = 109 ∨ f = 77)
noncomputable def IsGap (g : List Nat) : Prop := ∀ x ∈ g, isSp x = true
structure IdOk (qt : Nat) (cs : List Nat) : Prop where
  q : Quot qt
  h : ∀ y ∈ cs, y ≠ qt ∧ y ≠ 62
  l : cs.length ≤ 100
noncomputable def jf (j : List Nat) (x : Str) : List Str := if j = [] then [] else [x]
/-- what stands behind the name and its blank, what it tells, whether all is right, its faults -/
inductive Tail : List Nat → Option Str → Option Str → Bool → List Str → Prop
  | k0 {g j} (hg : IsGap g) (hj : JunkOk j) : Tail (g ++ (j ++ [62])) none none (if j = [] then true else false) (jf j expS)
  | k1 {kw g2 qt cs g j} (hk : IsPub kw) (hg2 : IsGap g2) (hi : IdOk qt cs) (hg : IsGap g) (hj : JunkOk j) :
      Tail (kw ++ (g2 ++ qt :: (cs ++ qt :: (g ++ (j ++ [62]))))) (some (clS cs)) none (if j = [] then true else false) (gapF g2 oddS ++ nulls cs ++ jf j oddS)
  | k2 {kw g2 qt cs g3 qu ds g j} (hk : IsPub kw) (hg2 : IsGap g2) (hi : IdOk qt cs) (hg3 : IsGap g3) (hi2 : IdOk qu ds) (hg : IsGap g) (hj : JunkOk j) :
      Tail (kw ++ (g2 ++ qt :: (cs ++ qt :: (g3 ++ qu :: (ds ++ qu :: (g ++ (j ++ [62]))))))) (some (clS cs)) (some (clS ds)) true (gapF g2 oddS ++ nulls cs ++ gapF g3 oddS ++ nulls ds ++ jf j oddS)
  | k3 {kw g2 qt cs g j} (hk : IsSys kw) (hg2 : IsGap g2) (hi : IdOk qt cs) (hg : IsGap g) (hj : JunkOk j) :
      Tail (kw ++ (g2 ++ qt :: (cs ++ qt :: (g ++ (j ++ [62]))))) none (some (clS cs)) true (gapF g2 oddS ++ nulls cs ++ jf j oddS)
section
variable {prog : Program} {w : World} {c : Cx} {z : SD} {r : List Nat} {nm : Str} {fs : List Str}
theorem r_tail {t : List Nat} {pb sy : Option Str} {right : Bool} {fl : List Str} (h : Tail t pb sy right fl) (hf : fs.length ≤ 150) :
    ∃ k, k ≤ t.length + 2 ∧ Reach prog w c z k ⟨.afterName, t ++ r, ⟨nm, none, none, true⟩, fs, false⟩ ⟨.data, r, ⟨nm, pb, sy, right⟩, fs ++ fl, true⟩ := by
  cases h with
  | @k0 g j hg hj =>
    obtain ⟨k, hk, h⟩ := r_end0 (prog := prog) (w := w) (c := c) (z := z) (r := r) (nm := nm) (pb := none) (sy := none) (ok := true) (fs := fs) g j hg hj (by omega)
    refine ⟨k, by simp; omega, ?_⟩
    simpa [jf, List.append_assoc] using h
  | @k1 kw g2 qt cs g j hk hg2 hi hg hj =>
    obtain ⟨a, b, d, e, f, x, rfl, h1, h2, h3, h4, h5, h6⟩ := hk
    have n1 := gapF_len g2 oddS
    have n2 := nulls_len cs
    have l1 := hi.l
    obtain ⟨m1, e1, s1⟩ := r_afterPub (prog := prog) (w := w) (c := c) (z := z) (r := cs ++ qt :: (g ++ (j ++ 62 :: r))) (nm := nm) (pb := none) (sy := none) (ok := true) (fs := fs) g2 hi.q hg2 (by omega)
    have s2 := r_pubid (prog := prog) (w := w) (c := c) (z := z) (r := g ++ (j ++ 62 :: r)) (nm := nm) (pb := none) (sy := none) (ok := true) (fs := fs ++ gapF g2 oddS) hi.q cs hi.h (by rw [List.length_append]; omega)
    obtain ⟨m3, e3, s3⟩ := r_end1 (prog := prog) (w := w) (c := c) (z := z) (r := r) (nm := nm) (pb := some (clS cs)) (sy := none) (ok := true) (fs := fs ++ gapF g2 oddS ++ nulls cs) g j hg hj (by rw [List.length_append, List.length_append]; omega)
    refine ⟨1 + m1 + (cs.length + 2) + m3, by simp; omega, ?_⟩
    have := (((Reach.one (p_afterName_pub (prog := prog) (w := w) (c := c) (z := z) (r := g2 ++ qt :: (cs ++ qt :: (g ++ (j ++ 62 :: r)))) (nm := nm) (pb := none) (sy := none) (ok := true) (fs := fs) h1 h2 h3 h4 h5 h6) rfl (by show fs.length ≤ 900; omega)).trans s1).trans s2).trans s3
    simpa [jf, List.append_assoc] using this
  | @k2 kw g2 qt cs g3 qu ds g j hk hg2 hi hg3 hi2 hg hj =>
    obtain ⟨a, b, d, e, f, x, rfl, h1, h2, h3, h4, h5, h6⟩ := hk
    have n1 := gapF_len g2 oddS
    have n2 := nulls_len cs
    have n3 := gapF_len g3 oddS
    have n4 := nulls_len ds
    have l1 := hi.l
    have l2 := hi2.l
    obtain ⟨m1, e1, s1⟩ := r_afterPub (prog := prog) (w := w) (c := c) (z := z) (r := cs ++ qt :: (g3 ++ qu :: (ds ++ qu :: (g ++ (j ++ 62 :: r))))) (nm := nm) (pb := none) (sy := none) (ok := true) (fs := fs) g2 hi.q hg2 (by omega)
    have s2 := r_pubid (prog := prog) (w := w) (c := c) (z := z) (r := g3 ++ qu :: (ds ++ qu :: (g ++ (j ++ 62 :: r)))) (nm := nm) (pb := none) (sy := none) (ok := true) (fs := fs ++ gapF g2 oddS) hi.q cs hi.h (by rw [List.length_append]; omega)
    obtain ⟨m4, e4, s4⟩ := r_second (prog := prog) (w := w) (c := c) (z := z) (r := g ++ (j ++ 62 :: r)) (nm := nm) (pb := some (clS cs)) (sy := none) (ok := true) (fs := fs ++ gapF g2 oddS ++ nulls cs) g3 ds hi2.q hg3 hi2.h (by rw [List.length_append, List.length_append]; omega) hi2.l
    obtain ⟨m3, e3, s3⟩ := r_end2 (prog := prog) (w := w) (c := c) (z := z) (r := r) (nm := nm) (pb := some (clS cs)) (sy := some (clS ds)) (ok := true) (fs := fs ++ gapF g2 oddS ++ nulls cs ++ gapF g3 oddS ++ nulls ds) g j hg hj (by simp only [List.length_append]; omega)
    refine ⟨1 + m1 + (cs.length + 2) + m4 + m3, by simp; omega, ?_⟩
    have := ((((Reach.one (p_afterName_pub (prog := prog) (w := w) (c := c) (z := z) (r := g2 ++ qt :: (cs ++ qt :: (g3 ++ qu :: (ds ++ qu :: (g ++ (j ++ 62 :: r)))))) (nm := nm) (pb := none) (sy := none) (ok := true) (fs := fs) h1 h2 h3 h4 h5 h6) rfl (by show fs.length ≤ 900; omega)).trans s1).trans s2).trans s4).trans s3
    simpa [jf, List.append_assoc] using this
  | @k3 kw g2 qt cs g j hk hg2 hi hg hj =>
    obtain ⟨a, b, d, e, f, x, rfl, h1, h2, h3, h4, h5, h6⟩ := hk
    have n1 := gapF_len g2 oddS
    have n2 := nulls_len cs
    have l1 := hi.l
    obtain ⟨m1, e1, s1⟩ := r_afterSys (prog := prog) (w := w) (c := c) (z := z) (r := cs ++ qt :: (g ++ (j ++ 62 :: r))) (nm := nm) (pb := none) (sy := none) (ok := true) (fs := fs) g2 hi.q hg2 (by omega)
    have s2 := r_sysid (prog := prog) (w := w) (c := c) (z := z) (r := g ++ (j ++ 62 :: r)) (nm := nm) (pb := none) (sy := none) (ok := true) (fs := fs ++ gapF g2 oddS) .beforeSys hi.q p_beforeSys_sq p_beforeSys_dq cs hi.h (by rw [List.length_append]; omega)
    obtain ⟨m3, e3, s3⟩ := r_end2 (prog := prog) (w := w) (c := c) (z := z) (r := r) (nm := nm) (pb := none) (sy := some (clS cs)) (ok := true) (fs := fs ++ gapF g2 oddS ++ nulls cs) g j hg hj (by rw [List.length_append, List.length_append]; omega)
    refine ⟨1 + m1 + (cs.length + 2) + m3, by simp; omega, ?_⟩
    have := (((Reach.one (p_afterName_sys (prog := prog) (w := w) (c := c) (z := z) (r := g2 ++ qt :: (cs ++ qt :: (g ++ (j ++ 62 :: r)))) (nm := nm) (pb := none) (sy := none) (ok := true) (fs := fs) h1 h2 h3 h4 h5 h6) rfl (by show fs.length ≤ 900; omega)).trans s1).trans s2).trans s3
    simpa [jf, List.append_assoc] using this

/-- the whole way: from the word's end to the sign > -/
theorem r_all {g cs t : List Nat} {pb sy : Option Str} {right : Bool} {fl : List Str} (hg : IsGap g) (hcs : ∀ x ∈ cs, isSp x = false ∧ x ≠ 62) (hne : cs ≠ []) (hlen : cs.length ≤ 100) (h : Tail t pb sy right fl) :
    ∃ k, k ≤ g.length + cs.length + t.length + 4 ∧ Reach prog w c z k ⟨.doctype, g ++ (cs ++ 32 :: (t ++ r)), ⟨Str.ofString "", none, none, true⟩, [], false⟩
      ⟨.data, r, ⟨lowS (clS cs), pb, sy, right⟩, gapF g (Str.ofString "need-space-after-doctype") ++ nulls cs ++ fl, true⟩ := by
  obtain ⟨m1, e1, s1⟩ := r_start (prog := prog) (w := w) (c := c) (z := z) (r := t ++ r) (nm := Str.ofString "") (pb := none) (sy := none) (ok := true) g cs hg hcs hne hlen
  have n1 := gapF_len g (Str.ofString "need-space-after-doctype")
  have n2 := nulls_len cs
  obtain ⟨m2, e2, s2⟩ := r_tail (prog := prog) (w := w) (c := c) (z := z) (r := r) (nm := lowS (clS cs)) (fs := gapF g (Str.ofString "need-space-after-doctype") ++ nulls cs) h (by rw [List.length_append]; omega)
  exact ⟨_, by omega, s1.trans s2⟩
end
end
end Mine
end
-- part MQ2
section
open PySem PySem.W PySem.Calls PyProof.Rows
set_option Elab.async false
set_option maxRecDepth 100000
namespace Mine
noncomputable section
section
variable {prog : Program} {w : World} {A : Around} {E : Value → Shared → Prop} {s : Shared} {h₀ : Heap} {L a : Addr} {m : Str → Option Value} {rest : List (Addr × Obj)}
  {R : Result → Shared → Prop} {p : Program} {loose : List Str} {mg mb : Str → Option Value} {cn : Str} {cs : Scope} {cd : Value} {c : Cx} {d : Dy} {z : SD} {M : Mc}

/-- reader.tokenQueue, the reader in a local -/
theorem v_queue {x : Str} {px pp : Pos} {Q : Value → Shared → Prop} (F : Fr h₀ L s.heap m) (X : (Mine.hd.heap_1 w.params).In h₀) (D : Ld h₀ L s.heap (led w.params c d ++ rest)) (hx : m x = some (.ref c.r))
    (h : Q (.ref c.q) { s with toks := s.toks + 1 }) (hk : cs.kind = .function := by rfl) (hy : (envOf cn cs L a cd).kindOf x = some .local := by rfl) (hd : (x == ("__debug__" : Str)) = false := by decide) :
    wpAny (model prog w) A (eval (.Attribute (.Name x px) "tokenQueue" pp) (envOf cn cs L a cd)) Q E s := fld F X D.N hx m_r m_dr (cr_get _) cr_dict cr_queue (rE_queue _ _ _ _ _ _) rfl h hk hy hd

/-- reader.tokenQueue == [] -/
theorem t_empty {x : Str} {px pp p3 p4 : Pos} {Q : Bool → Shared → Prop} (hu : A.units < cLine) (F : Fr h₀ L s.heap m) (X : (Mine.hd.heap_1 w.params).In h₀) (D : Ld h₀ L s.heap (led w.params c d ++ rest)) (hx : m x = some (.ref c.r))
    (h : ∀ h' tk, Fr h₀ L h' m → Ld h₀ L h' (led w.params c d ++ rest) → Q (d.vals.size == 0) { s with heap := h', toks := tk }) (hk : cs.kind = .function := by rfl) (hy : (envOf cn cs L a cd).kindOf x = some .local := by rfl) (hd : (x == ("__debug__" : Str)) = false := by decide) :
    wpAny (model prog w) A (isTrue (.Compare (.Attribute (.Name x px) "tokenQueue" pp) [.Eq] [.List [] p3] p4) (envOf cn cs L a cd) (eval (.Compare (.Attribute (.Name x px) "tokenQueue" pp) [.Eq] [.List [] p3] p4) (envOf cn cs L a cd))) Q E s := by
  refine wpAny_isTrue_Compare1 (v_queue F X D hx (List_ (wpAny_items_nil ?_)) hk hy hd)
  refine newList_ld F D (fun b h₂ F₂ D₂ => ?_) (by show 0 ≤ sizeLine; decide)
  have D₃ : Ld h₀ L h₂ (led w.params c d ++ rest) := ⟨fun p hp => D₂.N p (List.mem_append_left _ hp), nd_left D₂.nd⟩
  by_cases hz : d.vals.size = 0
  · refine PySem.SeqAt.eq_listAt (e := fun _ => true) (News.isList D₃.N m_q) (News.isList D₂.N (List.mem_append_right _ (.head _))) hz hu (fun j h1 _ => absurd h1 (by rw [hz]; exact Nat.not_lt_zero _)) (wpAny_truthy_bool ?_)
    have := h h₂ (s.toks + 1) F₂ D₃
    rw [hz] at this ⊢
    exact this
  · refine PySem.SeqAt.eq_list_lengthsAt (News.isList D₃.N m_q) (News.isList D₂.N (List.mem_append_right _ (.head _))) (bne_iff_ne.mpr hz) hu (wpAny_truthy_bool ?_)
    have := h h₂ (s.toks + 1) F₂ D₃
    rw [beq_eq_false_iff_ne.mpr hz] at this
    exact this

/-- reader.tokenQueue[-1] -/
theorem v_last {x : Str} {px pp p1 p2 p3 : Pos} {kk : Nat} {v : Value} {Q : Value → Shared → Prop} (F : Fr h₀ L s.heap m) (X : (Mine.hd.heap_1 w.params).In h₀) (D : Ld h₀ L s.heap (led w.params c d ++ rest)) (hx : m x = some (.ref c.r)) (hv : d.vals[d.vals.size - 1]? = some v)
    (h : ∀ tk, Q v { s with toks := tk }) (hk : cs.kind = .function := by rfl) (hy : (envOf cn cs L a cd).kindOf x = some .local := by rfl) (hd : (x == ("__debug__" : Str)) = false := by decide) :
    wpAny (model prog w) A (eval (.Subscript (.Attribute (.Name x px) "tokenQueue" pp) (.UnaryOp .USub (.Constant (.int 1) kk p1) p2) p3) (envOf cn cs L a cd)) Q E s := by
  have hl : s.heap.IsList c.q d.vals := News.isList D.N m_q
  have hsz : 0 < d.vals.size := by
    have := (Array.getElem?_eq_some_iff.mp hv).1
    omega
  refine Subscript_ (v_queue F X D hx (wpAny_UnaryOp (wpAny_Constant_int (PyProof.Rows.neg_int ?_))) hk hy hd)
  refine tail_any (ops := [.ref c.q, .int (-1) _]) (hl.typeIs) slot_list_getitem.lookup (wpAny_getItem_list_neg (k := -1) hl (by decide) (by omega) (by decide) ?_ (h _)) rfl
  have e : ((-1 : Int) + (d.vals.size : Int)).toNat = d.vals.size - 1 := by omega
  rw [e]; exact hv

/-- e['type'] != tokenTypes['Doctype'] -/
theorem t_type {l : List (Addr × Obj)} {e : Expr} {p1 p2 p3 p4 p5 p6 : Pos} {k1 k2 : Nat} {a' : Addr} {o : Obj} {kvs : List (Str × Value)} {kd : Int} {tk' : Tok} {Q : Bool → Shared → Prop} (F : Fr h₀ L s.heap m) (X : (Mine.hd.heap_1 w.params).In h₀) (T₀ : TopRead p loose mg mb h₀) (D : Ld h₀ L s.heap l)
    (ho : (a', o) ∈ l) (hd : o.IsDictOf (strKind prog w) kvs) (hv : valueAt kvs "type" = some (.int kd tk'))
    (he : ∀ (Q' : Value → Shared → Prop), (∀ tk, Q' (.ref a') { s with toks := tk }) → wpAny (model prog w) A (eval e (envOf cn cs L a cd)) Q' E s)
    (h : ∀ tk, Q (kd != 0) { s with toks := tk }) (hk : cs.kind = .function := by rfl) (hz : (envOf cn cs L a cd).kindOf "tokenTypes" = some .globalImplicit := by rfl) :
    wpAny (model prog w) A (isTrue (.Compare (.Subscript e (.Constant (.str "type") k1 p1) p2) [.NotEq] [.Subscript (.Name "tokenTypes" p3) (.Constant (.str "Doctype") k2 p4) p5] p6) (envOf cn cs L a cd) (eval (.Compare (.Subscript e (.Constant (.str "type") k1 p1) p2) [.NotEq] [.Subscript (.Name "tokenTypes" p3) (.Constant (.str "Doctype") k2 p4) p5] p6) (envOf cn cs L a cd))) Q E s := by
  refine wpAny_isTrue_Compare1 (Subscript_ (he _ fun tk => wpAny_Constant_str ?_))
  have hT : s.heap.DictOf (strKind prog w) a' kvs := Heap.dictOf_iff.mpr ⟨_, (D.N _ ho).1, hd⟩
  refine tail_any (ops := [.ref a', .str "type" _]) hT.mapOf.typeIs slot_dict_getitem.lookup (wpAny_getItem_of (strKind_is prog w "type" _) hT.mapOf hv ?_) rfl
  refine Subscript_ (name_K F X T₀ g_tt (wpAny_Constant_str ?_) hk hz)
  refine topItem_K (v := .int 0 533) F X (by k_is) (by repeat (first | exact True.intro | refine And.intro ⟨_, _, rfl, rfl⟩ ?_)) (by k_is) ?_
  exact PyProof.Rows.ne_int (wpAny_truthy_bool (h _))

theorem paired_mem {α β : Type} {R : α → β → Prop} : ∀ {l : List α} {l' : List β}, Paired R l l' → ∀ {p : α}, p ∈ l → ∃ f, R p f
  | [], _, _, _, h => by cases h
  | x :: l, _, h, p, hp => by
    cases h with
    | cons h1 h2 =>
      rcases List.mem_cons.mp hp with rfl | q
      · exact ⟨_, h1⟩
      · exact paired_mem h2 q
/-- reader.tokenQueue == [] or reader.tokenQueue[-1]['type'] != tokenTypes['Doctype'] -/
theorem t_open {x : Str} {q1 q2 q3 q4 q5 q6 q7 q8 q9 p1 p2 p3 p4 p5 p6 p7 : Pos} {kk k1 k2 : Nat} {whole : Sem Value} {Q : Bool → Shared → Prop} (hu : A.units < cLine) (F : Fr h₀ L s.heap m) (X : (Mine.hd.heap_1 w.params).In h₀) (T₀ : TopRead p loose mg mb h₀) (D : Ld h₀ L s.heap (led w.params c d ++ rest)) (hx : m x = some (.ref c.r))
    (hr : Rep prog w c z M d rest) (h : ∀ h' tk, Fr h₀ L h' m → Ld h₀ L h' (led w.params c d ++ rest) → Q (!M.done) { s with heap := h', toks := tk })
    (hk : cs.kind = .function := by rfl) (hy : (envOf cn cs L a cd).kindOf x = some .local := by rfl) (hz : (envOf cn cs L a cd).kindOf "tokenTypes" = some .globalImplicit := by rfl) (hd : (x == ("__debug__" : Str)) = false := by decide) :
    wpAny (model prog w) A (isTrue (.BoolOp .Or [.Compare (.Attribute (.Name x q1) "tokenQueue" q2) [.Eq] [.List [] q3] q4,
      .Compare (.Subscript (.Subscript (.Attribute (.Name x q5) "tokenQueue" q6) (.UnaryOp .USub (.Constant (.int 1) kk q7) q8) q9) (.Constant (.str "type") k1 p1) p2) [.NotEq] [.Subscript (.Name "tokenTypes" p3) (.Constant (.str "Doctype") k2 p4) p5] p6] p7) (envOf cn cs L a cd) whole) Q E s := by
  obtain ⟨vals, hq, hv⟩ := hr.q
  refine isTrue_or (t_empty hu F X D hx (fun h₂ tk₂ F₂ D₂ => ?_) hk hy hd)
  cases hdn : M.done with
  | true =>
    rw [hdn] at hv h
    have hv' : d.vals = vals.push (.ref c.tk) := hv
    refine ite_f (by rw [hv']; simp) ?_
    obtain ⟨t0, t1, v2, v3, ht, _, _⟩ := hr.tok
    refine isTrue_or (t_type (kd := 0) (tk' := t0) F₂ X T₀ D₂ m_tk ht (by kernel_rfl) (fun Q' hQ' => v_last F₂ X D₂ hx (v := .ref c.tk) (by rw [hv']; simp) hQ' hk hy hd) (fun tk => ?_) hk hz)
    refine ite_f rfl (isTrue_or_nil ?_)
    exact h _ _ F₂ D₂
  | false =>
    rw [hdn] at hv h
    have hv' : d.vals = vals := hv
    obtain ⟨es, he, hm, hp⟩ := hq
    refine bool_if (fun _ => h _ _ F₂ D₂) (fun h0 => ?_)
    have hsz : d.vals.size ≠ 0 := by
      have := beq_eq_false_iff_ne.mp h0
      exact this
    have hls : es.length ≠ 0 := by rw [hv', he] at hsz; simpa using hsz
    obtain ⟨pl, hpl⟩ : ∃ pl, es[es.length - 1]? = some pl := ⟨es[es.length - 1]'(by omega), by simp⟩
    have hmem := List.mem_of_getElem? hpl
    obtain ⟨f, hf⟩ := paired_mem hp hmem
    obtain ⟨kvs, t, u, ho, hty, _⟩ := hf
    refine isTrue_or (t_type (kd := 7) (tk' := t) F₂ X T₀ D₂ (List.mem_append_right _ (hm _ hmem)) ho hty (fun Q' hQ' => v_last F₂ X D₂ hx (v := .ref pl.1) (by rw [hv', he]; simp [hpl]) hQ' hk hy hd) (fun tk => ?_) hk hz)
    refine ite_t rfl ?_
    exact h _ _ F₂ D₂
end
end
end Mine
end
-- part MR
section
open PySem PySem.W PySem.Calls PyProof.Rows
set_option Elab.async false
set_option maxRecDepth 100000
namespace Mine
noncomputable section
theorem fn_in (P : Params) : ∀ x : DS, fnIn (Mine.hd.heap_1 P) x.fn = true
  | .data => by k_is | .doctype => by k_is | .beforeName => by k_is | .name => by k_is | .afterName => by k_is | .afterPub => by k_is | .beforePub => by k_is | .pubD => by k_is | .pubS => by k_is
  | .afterPubId => by k_is | .between => by k_is | .afterSys => by k_is | .beforeSys => by k_is | .sysD => by k_is | .sysS => by k_is | .afterSysId => by k_is | .bogus => by k_is
theorem cr_getf {P : Params} : findIn (Mine.hd.heap_1 P) (.ref 762) "__getattribute__" = some (some (.builtin "object.__getattribute__")) := by k_is
theorem cr_geta {P : Params} : findIn (Mine.hd.heap_1 P) (.ref 762) "__getattr__" = some none := by k_is
section
variable {prog : Program} {w : World} {A : Around} {E : Value → Shared → Prop} {s : Shared} {h₀ : Heap} {L a : Addr} {m : Str → Option Value} {rest : List (Addr × Obj)}
  {p : Program} {loose : List Str} {mg mb : Str → Option Value} {cn : Str} {cs : Scope} {cd : Value} {c : Cx} {d : Dy} {z : SD} {M M' : Mc}
/-- reader.state() -/
theorem e_state {x : Str} {p1 p2 p3 : Pos} {Q : Value → Shared → Prop} (hA : Room A 3) (F : Fr h₀ L s.heap m) (X : (Mine.hd.heap_1 w.params).In h₀) (T₀ : TopRead p loose mg mb h₀) (D : Ld h₀ L s.heap (led w.params c d ++ rest)) (hx : m x = some (.ref c.r))
    (hst : StOk c M.st d.stv rest)
    (h : codeAny (model prog w) A (.call (.ref M.st.fn) ⟨[.ref c.r], []⟩) (fun r s' => match r with | .ok (.ret v) => Q v s' | .ok _ => False | .error e => E e s') { s with toks := s.toks + 1 })
    (hk : cs.kind = .function := by rfl) (hy : (envOf cn cs L a cd).kindOf x = some .local := by rfl) (hp : (p2.endLine == p3.line) = true := by rfl) (hd : (x == ("__debug__" : Str)) = false := by decide) :
    wpAny (model prog w) A (eval (.Call (.Attribute (.Name x p1) "state" p2) [] [] p3) (envOf cn cs L a cd)) Q E s := by
  obtain ⟨mu, e, hmu⟩ := hst
  refine MCallN (fun pl => ld F hx ?_ hk hy hd) rfl hp
  refine method_usual (X.keeps F.keep) (InstAt.of_news D.N m_r m_dr) cr_getf cr_geta cr_state rfl ?_
  refine get_own F X (InstAt.of_news D.N m_r m_dr) (cr_get _) cr_dict cr_state no_none (v := .ref mu) ((rE_state _ _ _ _ _ _).trans (by rw [e])) rfl ?_
  have hm : (mu, methodObj (.ref M.st.fn) (.ref c.r)) ∈ led w.params c d ++ rest := List.mem_append_right _ hmu
  refine callWith_M0 (methP D.N hm (X.keeps F.keep)) (fn_in _ _) ?_
  exact call_meth D.N hm h
end
end
end Mine
end
-- part ND
section
open PySem PySem.W PySem.Calls PyProof.Rows
set_option Elab.async false
set_option maxRecDepth 100000
namespace Mine
noncomputable section
noncomputable def crlf : Str := ⟨#[13, 10]⟩
/-- a sign of the law's: one code, or a line's end of two -/
noncomputable def SignOk (c : Str) : Prop := (∃ k, c = one k ∧ k ≠ 13) ∨ c = crlf
noncomputable def cat (ss : List Str) : List Nat := ss.flatMap fun c => c.cps.toList
theorem cat_append (a b : List Str) : cat (a ++ b) = cat a ++ cat b := by simp [cat]
theorem cat_one (c : Str) : cat [c] = c.cps.toList := by simp [cat]
theorem clS_append (a b : List Nat) : clS (a ++ b) = clS a ++ clS b := by
  apply Str.ext'
  simp [clS, Str.cps_append]
theorem nulls_append (a b : List Nat) : nulls (a ++ b) = nulls a ++ nulls b := by simp [nulls]
theorem strs_get : ∀ {vs : List Value} {ss : List Str} {i : Nat} {v : Value}, StrsAre vs ss → vs[i]? = some v → ∃ c t, ss[i]? = some c ∧ v = .str c t
  | _, _, _, _, .nil, h => by simp at h
  | _, _, 0, _, .cons c t _, h => by simp at h; exact ⟨c, t, by simp, h.symm⟩
  | _, _, i + 1, _, .cons _ _ r, h => by simpa using strs_get (i := i) r (by simpa using h)
theorem strs_len : ∀ {vs : List Value} {ss : List Str}, StrsAre vs ss → vs.length = ss.length
  | _, _, .nil => rfl
  | _, _, .cons _ _ r => by simp [strs_len r]
noncomputable def Fl (l : List (Addr × Obj)) (fa : Addr) (fs : List Str) : Prop := ∃ fv kf, (fa, PySem.W.listOf fv kf) ∈ l ∧ StrsAre fv.toList fs
theorem Fl.mono {l l' : List (Addr × Obj)} {fa : Addr} {fs : List Str} (h : Fl l fa fs) (k : ∀ z ∈ l, z.1 = fa → z ∈ l') : Fl l' fa fs :=
  let ⟨vs, n, a, b⟩ := h; ⟨vs, n, k _ a rfl, b⟩
theorem Fl.push {l : List (Addr × Obj)} {fa : Addr} {fs : List Str} {fv : Array Value} {kf k' : Nat} {x : Str} {t : Tok} (hm : (fa, PySem.W.listOf fv kf) ∈ l) (h : StrsAre fv.toList fs) : Fl (setO fa (PySem.W.listOf (fv.push (.str x t)) k') l) fa (fs ++ [x]) :=
  ⟨_, _, setO_self hm, by rw [Array.toList_push]; exact kct_snoc h⟩
theorem one_ne_crlf (k : Nat) : (one k == crlf) = false := by
  rw [beq_eq_false_iff_ne]
  intro h
  have := congrArg (fun x : Str => x.cps.size) h
  simp [one, crlf] at this
theorem one_eq {k n : Nat} (h : one k = one n) : k = n := by
  have := congrArg (fun x : Str => x.cps[0]!) h
  simpa [one] using this
section
variable {prog : Program} {w : World} {A : Around} {E : Value → Shared → Prop} {s : Shared} {h₀ : Heap} {L a : Addr} {m : Str → Option Value} {l : List (Addr × Obj)}
  {R : Result → Shared → Prop} {p : Program} {loose : List Str} {mg mb : Str → Option Value} {cn : Str} {cs : Scope} {cd : Value}

set_option maxHeartbeats 1000000 in
theorem clean_in {sg fa : Addr} {ss fs : List Str} (hss : ∀ c ∈ ss, SignOk c) (hne : sg ≠ fa) (hlen : ss.length ≤ 50) (hfl : fs.length ≤ 200) (hA : Room A 1) (F : Fr h₀ L s.heap m) (D : Ld h₀ L s.heap l) (X : (Mine.hd.heap_1 w.params).In h₀) (T₀ : TopRead p loose mg mb h₀)
    (hs : Fl l sg ss) (hf : Fl l fa fs)
    (hR : ∀ t h' tk l', Fr h₀ L h' m → Ld h₀ L h' l' → Fl l' fa (fs ++ nulls (nocr (cat ss))) → (∀ z ∈ l, z.1 ≠ fa → z ∈ l') → R (.ok (.ret (.str (clS (nocr (cat ss))) t))) { s with heap := h', toks := tk }) :
    codeAny (model prog w) A (.call (.ref 810) ⟨[.ref sg, .ref fa], []⟩) R s := by
  refine call_M (binds := [("signs", .ref sg), ("faults", .ref fa)]) hA.lt F D.N X T₀ (f := 810) (by k_is) (by k_is) (BindsTo.of_eq rfl) (locs rfl) (fun g L' h₁ F₁ N₁ X₁ T₁ lt => ?_) (by decide)
  refine wpAny_execs_cons (wpAny_Assign_Name (wpAny_Constant_str (stN F₁ N₁ fun h₂ F₂ N₂ => ?_)))
  refine wpAny_execs_cons (wpAny_For ?_ ?_)
  rotate_left
  · intro x; rfl
  obtain ⟨vs, k, hm, hv⟩ := hs
  refine ld F₂ rfl ?_
  refine iter_list hA.handled F₂ (D := ⟨N₂, D.nd⟩) (l := l) hm fun I oI h' St F₃ D₃ IT => ?_
  have hvl := strs_len hv
  refine for_ld (fun i m₁ l₁ => (sg, PySem.W.listOf vs k) ∈ l₁ ∧ (∀ z ∈ l, z.1 ≠ fa → z ∈ l₁) ∧ Fl l₁ fa (fs ++ nulls (nocr (cat (ss.take i)))) ∧ m₁ "faults" = some (.ref fa) ∧ ∃ tx, m₁ "value" = some (.str (clS (nocr (cat (ss.take i)))) tx)) IT rfl rfl rfl
    (fun b hb => by
      rcases List.mem_cons.mp hb with e | e
      · exact .inl e
      · rw [List.mem_singleton.mp e]
        exact .inr (.inr ⟨_, fun i m l h => h.1⟩)) F₃ D₃
    ⟨hm, fun z hz _ => hz, by simpa [cat, nocr, nulls] using hf, rfl, _, if_pos rfl⟩ ?_ ?_
  · rintro i v m₁ l₁ h tk oI hi hP ⟨hm₁, keep, ⟨fv, kf, hfm, hfv⟩, e1, tx, e2⟩ F₃ D₃
    have hP' : vs.toList[i]? = some v := by simpa using hP
    obtain ⟨c, u, hc, rfl⟩ := strs_get hv hP'
    have hsg := hss c (List.mem_of_getElem? hc)
    have e1' : (fun y => if y = "c" then some (Value.str c u) else m₁ y) "faults" = some (.ref fa) := (if_neg (by decide)).trans e1
    have e2' : (fun y => if y = "c" then some (Value.str c u) else m₁ y) "value" = some (.str (clS (nocr (cat (ss.take i)))) tx) := (if_neg (by decide)).trans e2
    have hfl' := strs_len hfv
    have hcl : ∀ c ∈ ss, c.cps.toList.length ≤ 2 := fun c hc => by
      rcases hss c hc with ⟨k, rfl, _⟩ | rfl
      · exact Nat.le_succ_of_le (Nat.le_refl _)
      · exact Nat.le_refl _
    have hcat : ∀ l : List Str, (∀ c ∈ l, c.cps.toList.length ≤ 2) → (cat l).length ≤ 2 * l.length := by
      intro l
      induction l with
      | nil => intro _; simp [cat]
      | cons x l ih =>
        intro h
        have h1 := h x (.head _)
        have h2 := ih fun c hc => h c (.tail _ hc)
        have e : cat (x :: l) = x.cps.toList ++ cat l := by simp [cat]
        rw [e, List.length_append, List.length_cons]
        omega
    have htk : (ss.take i).length ≤ 50 := by rw [List.length_take]; omega
    have hnn : (nocr (cat (ss.take i))).length ≤ 100 := by
      have h1 := hcat (ss.take i) fun c hc => hcl c (List.mem_of_mem_take hc)
      have h2 : (nocr (cat (ss.take i))).length ≤ (cat (ss.take i)).length := List.length_filter_le _ _
      omega
    have hnl := nulls_len (nocr (cat (ss.take i)))
    have hvl2 : (clS (nocr (cat (ss.take i)))).length ≤ 100 := by
      have : (clS (nocr (cat (ss.take i)))).length = (nocr (cat (ss.take i))).length := by simp [clS, Str.length]
      omega
    rw [List.length_append] at hfl'
    have hfsz : fv.size ≤ 1000 := by rw [← Array.length_toList]; omega
    have etk : cat (ss.take (i + 1)) = cat (ss.take i) ++ c.cps.toList := by
      rw [List.take_add_one, hc, cat_append]
      simp [cat]
    by_cases hz : c = one 0
    · subst hz
      refine wpAny_execs_cons (wpAny_If (wpAny_isTrue_Compare1 (ld F₃ (if_pos rfl) (wpAny_Constant_str (eq_str (wpAny_truthy_bool ?_))))))
      refine ite_t (one_yes rfl) ?_
      refine wpAny_execs_cons (op_app F₃ D₃ e1' (List.mem_append_left _ hfm) (wpAny_Constant_str ?_))
      refine ⟨_, _, _, _, F₃, D₃, List.mem_append_left _ hfm, by omega, fun h₄ F₄ D₄ => ?_⟩
      refine wpAny_execs_nil ?_
      refine wpAny_execs_cons (wpAny_AugAssign_Name (wpAny_loadName_local rfl rfl F₄.ns e2' ?_))
      refine wpAny_IfExp (wpAny_isTrue_Compare1 (ld F₄ (if_pos rfl) (wpAny_Constant_str (eq_str (wpAny_truthy_bool ?_)))))
      refine ite_t (one_yes rfl) ?_
      refine wpAny_Constant_str ?_
      refine SB.iadd (fun t' k => ?_) (by rw [sizeLine_eq, fffd]; show _ + 1 ≤ _; omega)
      refine stN F₄ D₄.N fun h₅ F₅ N₅ => ?_
      refine wpAny_execs_nil ?_
      have hfaI : fa ≠ I := nd_snoc_ne D₃.nd hfm
      have D₅ : Ld g L' h₅ (setO fa (PySem.W.listOf (fv.push _) (kf + 1)) l₁ ++ [(I, oI)]) := (congrArg (Ld g L' h₅) (setO_snoc (Ne.symm hfaI))).mp (Ld.mk N₅ D₄.nd)
      refine ⟨h₅, _, _, _, rfl, F₅, D₅, mem_setO hm₁ hne, fun z hz hn => mem_setO (keep z hz hn) hn, ?_, (if_neg (by decide)).trans e1', t', ?_⟩
      · rw [etk, nocr_append, nulls_append, ← List.append_assoc]
        exact Fl.push hfm hfv
      · rw [etk, nocr_append, clS_append]
        rw [fffd]
        exact if_pos rfl
    · have hfaI : fa ≠ I := nd_snoc_ne D₃.nd hfm
      have h0 : (c == one 0) = false := beq_eq_false_iff_ne.mpr hz
      have hnul : nulls (nocr c.cps.toList) = [] := by
        rcases hsg with ⟨k, rfl, h13⟩ | rfl
        · have hk : k ≠ 0 := fun q => hz (by rw [q])
          simp [nulls, nocr, one, h13, hk]
        · rfl
      refine wpAny_execs_cons (wpAny_If (wpAny_isTrue_Compare1 (ld F₃ (if_pos rfl) (wpAny_Constant_str (eq_str (wpAny_truthy_bool ?_))))))
      refine ite_f h0 ?_
      refine wpAny_execs_nil ?_
      refine wpAny_execs_cons (wpAny_AugAssign_Name (wpAny_loadName_local rfl rfl F₃.ns e2' (wpAny_mono (Q := fun v s' => ∃ tb tk', v = .str (clS (nocr c.cps.toList)) tb ∧ s' = { s with heap := h, toks := tk' }) ?_ (fun v s' hv => ?_) (fun _ _ e => e))))
      · refine wpAny_IfExp (wpAny_isTrue_Compare1 (ld F₃ (if_pos rfl) (wpAny_Constant_str (eq_str (wpAny_truthy_bool ?_)))))
        refine ite_f h0 ?_
        refine wpAny_IfExp (wpAny_isTrue_Compare1 (ld F₃ (if_pos rfl) (wpAny_Constant_str (eq_str (wpAny_truthy_bool ?_)))))
        rcases hsg with ⟨k, rfl, h13⟩ | rfl
        · refine ite_f (one_ne_crlf k) ?_
          have hk : k ≠ 0 := fun q => hz (by rw [q])
          have e : clS (nocr (one k).cps.toList) = one k := by
            simp [nocr, one, h13, clS, clC, hk]
          rw [e]
          exact ld F₃ (if_pos rfl) ⟨_, _, rfl, rfl⟩
        · refine ite_t rfl ?_
          exact wpAny_Constant_str ⟨_, _, rfl, rfl⟩
      · obtain ⟨tb, tk', rfl, rfl⟩ := hv
        have hl2 : (clS (nocr c.cps.toList)).length ≤ 2 := by
          have h1 := hcl c (List.mem_of_getElem? hc)
          have h2 : (nocr c.cps.toList).length ≤ c.cps.toList.length := List.length_filter_le _ _
          have h3 : (clS (nocr c.cps.toList)).length = (nocr c.cps.toList).length := by simp [clS, Str.length]
          omega
        dsimp only
        refine SB.iadd (fun t' k => ?_) (by rw [sizeLine_eq]; omega)
        refine stN F₃ D₃.N fun h₅ F₅ N₅ => ?_
        refine wpAny_execs_nil ?_
        refine ⟨h₅, _, _, l₁, rfl, F₅, ⟨N₅, D₃.nd⟩, hm₁, keep, ⟨fv, kf, hfm, ?_⟩, (if_neg (by decide)).trans e1', t', ?_⟩
        · rw [etk, nocr_append, nulls_append, hnul, List.append_nil]
          exact hfv
        · rw [etk, nocr_append, clS_append]
          exact if_pos rfl
  · rintro m₁ l₁ h tk ⟨hm₁, keep, hfl₁, e1, tx, e2⟩ F₃ D₃
    refine wpAny_execs_cons (wpAny_Return_some (ld F₃ e2 ?_))
    have et : ss.take vs.size = ss := List.take_of_length_le (by rw [← hvl, Array.length_toList]; exact Nat.le_refl _)
    rw [et] at hfl₁ ⊢
    exact leaveK_ F₃ D₃.N fun F₅ N₅ => hR _ _ _ _ F₅ ⟨N₅, D₃.nd⟩ hfl₁ keep
end
end
end Mine
end
-- part NE
section
open PySem PySem.W PySem.Calls PyProof.Rows
set_option Elab.async false
set_option maxRecDepth 100000
namespace Mine
noncomputable section
theorem g_take {P : Params} : nsIn (Mine.hd.heap_1 P) mainGlobals "_law_take" = some (some (.ref 796)) := by k_is
theorem g_sized {P : Params} : nsIn (Mine.hd.heap_1 P) mainGlobals "_law_sized" = some (some (.ref 803)) := by k_is
theorem g_clean {P : Params} : nsIn (Mine.hd.heap_1 P) mainGlobals "_law_clean" = some (some (.ref 810)) := by k_is
theorem g_ident {P : Params} : nsIn (Mine.hd.heap_1 P) mainGlobals "_law_identifier" = some (some (.ref 815)) := by k_is
theorem g_doct {P : Params} : nsIn (Mine.hd.heap_1 P) mainGlobals "_law_doctype" = some (some (.ref 820)) := by k_is
theorem g_gaps {P : Params} : nsIn (Mine.hd.heap_1 P) mainGlobals "_law_GAPS" = some (some (.ref 775)) := by k_is
theorem g_junk {P : Params} : nsIn (Mine.hd.heap_1 P) mainGlobals "_law_JUNK" = some (some (.ref 782)) := by k_is
theorem g_behind {P : Params} : nsIn (Mine.hd.heap_1 P) mainGlobals "_law_BEHIND" = some (some (.ref 789)) := by k_is
theorem g_odd {P : Params} : ∃ t, nsIn (Mine.hd.heap_1 P) mainGlobals "_law_ODD" = some (some (.str "unexpected-char-in-doctype" t)) := ⟨_, by k_is⟩
theorem g_signs {P : Params} : nsIn (Mine.hd.heap_1 P) mainGlobals "_law_SIGNS" = some (some (.ref 768)) := by k_is
theorem g_name {P : Params} : nsIn (Mine.hd.heap_1 P) mainGlobals "_law_NAME" = some (some (.ref 767)) := by k_is
theorem g_range {P : Params} : nsIn (Mine.hd.heap_1 P) mainGlobals "range" = some none := by k_is
theorem kp_take {P : Params} : keepIn (Mine.hd.heap_1 P) (.ref 796) = true := by k_is
theorem kp_sized {P : Params} : keepIn (Mine.hd.heap_1 P) (.ref 803) = true := by k_is
theorem kp_clean {P : Params} : keepIn (Mine.hd.heap_1 P) (.ref 810) = true := by k_is
theorem kp_ident {P : Params} : keepIn (Mine.hd.heap_1 P) (.ref 815) = true := by k_is
theorem kp_doct {P : Params} : keepIn (Mine.hd.heap_1 P) (.ref 820) = true := by k_is
theorem kp_gaps {P : Params} : keepIn (Mine.hd.heap_1 P) (.ref 775) = true := by k_is
theorem kp_junk {P : Params} : keepIn (Mine.hd.heap_1 P) (.ref 782) = true := by k_is
theorem kp_behind {P : Params} : keepIn (Mine.hd.heap_1 P) (.ref 789) = true := by k_is
noncomputable def SIGNS : List Str := [one 97, one 90, one 32, crlf, one 0, one 39, one 34, one 60, one 38, one 45, one 233, one 119987, one 9]
noncomputable def NAMES : List Str := [one 97, one 90, one 0, one 233, one 39, one 61, one 112, one 34, one 128512, one 83]
theorem signs_is {P : Params} {h : Heap} (X : (Mine.hd.heap_1 P).In h) : ∃ items : Array Value, h.IsList 768 items ∧ StrsAre items.toList SIGNS := by
  refine ⟨_, lstK X (dd := none) (sl := #[]) (n := 0) (l := [_, _, _, _, _, _, _, _, _, _, _, _, _]) (by k_is), ?_⟩
  exact .cons _ _ (.cons _ _ (.cons _ _ (.cons _ _ (.cons _ _ (.cons _ _ (.cons _ _ (.cons _ _ (.cons _ _ (.cons _ _ (.cons _ _ (.cons _ _ (.cons _ _ .nil))))))))))))
theorem names_is {P : Params} {h : Heap} (X : (Mine.hd.heap_1 P).In h) : ∃ items : Array Value, h.IsList 767 items ∧ StrsAre items.toList NAMES := by
  refine ⟨_, lstK X (dd := none) (sl := #[]) (n := 0) (l := [_, _, _, _, _, _, _, _, _, _]) (by k_is), ?_⟩
  exact .cons _ _ (.cons _ _ (.cons _ _ (.cons _ _ (.cons _ _ (.cons _ _ (.cons _ _ (.cons _ _ (.cons _ _ (.cons _ _ .nil)))))))))
section
variable {prog : Program} {w : World} {A : Around} {E : Value → Shared → Prop} {s : Shared} {h₀ : Heap} {L a : Addr} {m : Str → Option Value} {l : List (Addr × Obj)}
  {R : Result → Shared → Prop} {p : Program} {loose : List Str} {mg mb : Str → Option Value} {cn : Str} {cs : Scope} {cd : Value} {cl : List (Str × Addr)}

theorem st_cell {M : Model} {x : Str} {v : Value} {c : Addr} {o : Obj} {v₀ : Option Value} {Q : Unit → Shared → Prop} (F : Fr h₀ L s.heap m) (D : Ld h₀ L s.heap l) (hc : cl.lookup x = some c) (hm : (c, o) ∈ l) (hd : o.data = .cell v₀)
    (h : ∀ h' o', Fr h₀ L h' m → Ld h₀ L h' (setO c o' l) → o'.data = .cell (some v) → Q () { s with heap := h' })
    (hk : cs.kind = .function := by rfl) (hx : (envX cn cs L a cd cl).kindOf x = some .cell := by rfl) : wpAny M A (storeName (envX cn cs L a cd cl) x v) Q E s := by
  have z := D.N _ hm
  refine wpAny_storeName_cell hk hx hc ⟨o, z.1, hd⟩ fun h' hv hs => ?_
  obtain ⟨o', ho', hd'⟩ := hv
  obtain ⟨pre, post, e1, e2, a1, b1⟩ := (setO_upd (o' := o') D.nd hm).split
  refine h h' o' (F.change hs z.2.1 z.2.2) ⟨?_, setO_nd D.nd⟩ hd'
  rw [e2]
  have N := D.N
  rw [e1] at N
  exact news_set N a1 b1 hs ho'

/-- a def that is called with one argument, two arguments -/
theorem call_k1 {M : Model} {env : Env} {x : Str} {f : Addr} {K : Frag} {e : Expr} {p1 p2 : Pos} {Q : Value → Shared → Prop} (hk : keepIn K (.ref f) = true)
    (hn : ∀ (Q' : Value → Shared → Prop), Q' (.ref f) s → wpAny M A (eval (.Name x p1) env) Q' E s)
    (h : wpAny M A (eval e env) (fun v s₁ => K.In s₁.heap ∧ wpAny M A (call (.ref f) [v]) Q E s₁) E s) (he : starEach [e] env = [(false, eval e env)] := by rfl) :
    wpAny M A (eval (.Call (.Name x p1) [e] [] p2) env) Q E s :=
  Call_ (hn _ (callWith_k1 hk h he))
theorem callWith_k2 {M : Model} {env : Env} {pos pos' : Pos} {K : Frag} {f : Value} {first : List Value} {e e' : Expr} {Q : Value → Shared → Prop} (hk : keepIn K f = true)
    (h : wpAny M A (eval e env) (fun v s₁ => wpAny M A (eval e' env) (fun v' s₂ => K.In s₂.heap ∧ wpAny M A (call f (first ++ [v, v'])) Q E s₂) E s₁) E s) (he : starEach [e, e'] env = [(false, eval e env), (false, eval e' env)] := by rfl) :
    wpAny M A (callWith pos f first (backTo pos' (starEach [e, e'] env)) []) Q E s := by
  rw [he]
  exact callWith_of rfl (keeps_K hk) (evalArgs_plain (spliced_cons (wpAny_mono h (fun _ _ h₁ => spliced_cons (wpAny_mono h₁ (fun _ _ h₂ => spliced_nil h₂) fun _ _ x => x)) fun _ _ x => x)))
theorem call_k0 {M : Model} {env : Env} {x : Str} {f : Addr} {K : Frag} {p1 p2 : Pos} {Q : Value → Shared → Prop} (hk : keepIn K (.ref f) = true) (X : K.In s.heap)
    (hn : ∀ (Q' : Value → Shared → Prop), Q' (.ref f) s → wpAny M A (eval (.Name x p1) env) Q' E s)
    (h : wpAny M A (call (.ref f) []) Q E s) :
    wpAny M A (eval (.Call (.Name x p1) [] [] p2) env) Q E s :=
  Call_ (hn _ (callWith_K0 (env := env) X hk h))

/-- a global's value, read in a comprehension's frame -/
theorem name_GC {M : Model} {K : Frag} {env : Env} {sc : Scope} {C : Addr} {x : Str} {pos : Pos} {v : Value} {Q : Value → Shared → Prop} (F : Fr h₀ L s.heap m) (X : K.In h₀) (T : TopRead p loose mg mb h₀)
    (e : nsIn K mainGlobals x = some (some v)) (h : Q v s)
    (hk : (compEnvC sc cl C env).scope.kind = .function) (hx : (compEnvC sc cl C env).kindOf x = some .globalImplicit) (hg : env.globals = mainGlobals) (hd : (x == ("__debug__" : Str)) = false := by decide) :
    wpAny M A (eval (.Name x pos) (compEnvC sc cl C env)) Q E s :=
  Name_function_global hk hx (loadGlobal_global (env := compEnvC sc cl C env) (by show s.heap.Ns env.globals mg; rw [hg]; exact T.g.keeps F.keep) (mg_of X T.g e) h) hd
theorem name_CC {M : Model} {env : Env} {sc : Scope} {C c : Addr} {o : Obj} {x : Str} {pos : Pos} {v : Value} {Q : Value → Shared → Prop} (D : Ld h₀ L s.heap l) (hc : cl.lookup x = some c) (hm : (c, o) ∈ l) (hd : o.data = .cell (some v)) (h : Q v s)
    (hk : (compEnvC sc cl C env).scope.kind = .function) (hx : (compEnvC sc cl C env).kindOf x = some .cell) (hb : (x == ("__debug__" : Str)) = false := by decide) :
    wpAny M A (eval (.Name x pos) (compEnvC sc cl C env)) Q E s := wpAny_Name (wpAny_loadName_cell hk hx hc ⟨o, D.N.get hm, hd⟩ h) hb

/-- TABLE[_law_take(tape) % n], in a comprehension -/
theorem tk_elem {env : Env} {sc : Scope} {C c tp la : Addr} {oc : Obj} {lst : Str} {TX : List Str} {n : Int} {kk : Nat} {p1 p2 p3 p4 p5 p6 p7 : Pos} {Q : Value → Shared → Prop} (hA : Room A 1) (F : Fr h₀ L s.heap m) (X : (Mine.hd.heap_1 w.params).In h₀) (T₀ : TopRead p loose mg mb h₀)
    (D : Ld h₀ L s.heap l) (hl : ∀ h, (Mine.hd.heap_1 w.params).In h → ∃ items : Array Value, h.IsList la items ∧ StrsAre items.toList TX) (hlk : nsIn (Mine.hd.heap_1 w.params) mainGlobals lst = some (some (.ref la))) (hn : (TX.length : Int) = n) (hn0 : 0 < n)
    (hn1 : n < 1000) (hc : cl.lookup (Str.ofString "tape") = some c) (hm : (c, oc) ∈ l) (hd : oc.data = .cell (some (.ref tp))) (ht : Tp l tp)
    (h : ∀ x t h' tk l', x ∈ TX → Fr h₀ L h' m → Ld h₀ L h' l' → Tp l' tp → (∀ z ∈ l, z.1 ≠ tp → z ∈ l') → Q (.str x t) { s with heap := h', toks := tk })
    (hk : (compEnvC sc cl C env).scope.kind = .function) (hx1 : (compEnvC sc cl C env).kindOf lst = some .globalImplicit) (hx2 : (compEnvC sc cl C env).kindOf "_law_take" = some .globalImplicit) (hx3 : (compEnvC sc cl C env).kindOf "tape" = some .cell) (hg : env.globals = mainGlobals)
    (hdl : (lst == ("__debug__" : Str)) = false := by decide) :
    wpAny (model prog w) A (eval (.Subscript (.Name lst p1) (.BinOp (.Call (.Name "_law_take" p2) [.Name "tape" p3] [] p4) .Mod (.Constant (.int n) kk p5) p6) p7) (compEnvC sc cl C env)) Q E s := by
  refine Subscript_ (name_GC F X T₀ hlk ?_ hk hx1 hg hdl)
  refine wpAny_BinOp (call_k1 (K := Mine.hd.heap_1 w.params) kp_take (fun Q' q => name_GC F X T₀ g_take q hk hx2 hg) ?_)
  refine name_CC D hc hm hd ⟨X.keeps F.keep, wpAny_call ?_⟩ hk hx3
  refine take_in hA F D X T₀ ht fun v t h' tk l' h0 h1 F' D' ht' keep => ?_
  refine wpAny_Constant_int (PyProof.Rows.mod_int (by omega) ?_)
  obtain ⟨items, hil, hia⟩ := hl h' (X.keeps F'.keep)
  have e : v.fmod n = v % n := Int.fmod_eq_emod_of_nonneg _ (by omega)
  have b0 : 0 ≤ v % n := Int.emod_nonneg _ (by omega)
  have b1 : v % n < n := Int.emod_lt_of_pos _ hn0
  have hsz : items.size = TX.length := by rw [← Array.length_toList]; exact strs_len hia
  have hlt : (v % n).toNat < items.size := by omega
  have hget : items[(v % n).toNat]? = some items[(v % n).toNat] := by simp [hlt]
  obtain ⟨x, tx, hx, hv⟩ := strs_get (i := (v % n).toNat) hia (by rw [Array.getElem?_toList]; exact hget)
  rw [e]
  refine tail_any (ops := [.ref la, .int (v % n) _]) hil.typeIs slot_list_getitem.lookup (wpAny_getItem_list hil b0 (by omega) (hget.trans (congrArg some hv)) ?_) rfl
  exact h _ _ _ _ _ (List.mem_of_getElem? hx) F' D' ht' keep
end
end
end Mine
end
-- part NF
section
open PySem PySem.W PySem.Calls PyProof.Rows
set_option Elab.async false
set_option maxRecDepth 100000
namespace Mine
noncomputable section
theorem nd3 {I C D : Addr} {oI oC oD : Obj} {news : List (Addr × Obj)} (nd : (news.map (·.1)).Nodup) (off : LCg.Off3 I C D news) (ne : (@Ne Nat I C) ∧ (@Ne Nat I D) ∧ (@Ne Nat C D)) :
    (((I, oI) :: (C, oC) :: (D, oD) :: news).map (·.1)).Nodup := by
  have o := off.mem
  simp only [List.map_cons, List.nodup_cons, List.mem_cons, not_or]
  refine ⟨⟨ne.1, ne.2.1, fun q => ?_⟩, ⟨ne.2.2, fun q => ?_⟩, fun q => ?_, nd⟩
  · obtain ⟨p, hp, e⟩ := List.mem_map.mp q
    exact (o p hp).1 e
  · obtain ⟨p, hp, e⟩ := List.mem_map.mp q
    exact (o p hp).2.1 e
  · obtain ⟨p, hp, e⟩ := List.mem_map.mp q
    exact (o p hp).2.2 e
/-- a turn of a comprehension has changed the ledger: what is left of it -/
theorem turn_rest {I C D tp : Addr} {oI oC oD : Obj} {news l' : List (Addr × Obj)} (nd : (news.map (·.1)).Nodup) (off : LCg.Off3 I C D news) (ne : (@Ne Nat I C) ∧ (@Ne Nat I D) ∧ (@Ne Nat C D)) (nd' : (l'.map (·.1)).Nodup)
    (ht : Tp news tp) (ht' : Tp l' tp) (keep : ∀ z ∈ (I, oI) :: (C, oC) :: (D, oD) :: news, z.1 ≠ tp → z ∈ l') :
    ∃ rest, (∀ p ∈ (I, oI) :: (C, oC) :: (D, oD) :: rest, p ∈ l') ∧ LCg.Off3 I C D rest ∧ (rest.map (·.1)).Nodup ∧ Tp rest tp ∧ (∀ z ∈ news, z.1 ≠ tp → z ∈ rest) := by
  have o := off.mem
  obtain ⟨vs, k, hm, _, _⟩ := ht
  have tI := (o _ hm).1
  have tC := (o _ hm).2.1
  have tD := (o _ hm).2.2
  obtain ⟨rest, hp⟩ := perm_pick (l := l') (e := [(I, oI), (C, oC), (D, oD)]) (by
    have := nd3 (oI := oI) (oC := oC) (oD := oD) (news := []) (by simp) (I := I) (C := C) (D := D) trivial ne
    simpa using this) (fun p hp => by
      simp only [List.mem_cons, List.not_mem_nil, or_false] at hp
      rcases hp with rfl | rfl | rfl
      · exact keep _ (.head _) (Ne.symm tI)
      · exact keep _ (.tail _ (.head _)) (Ne.symm tC)
      · exact keep _ (.tail _ (.tail _ (.head _))) (Ne.symm tD))
  have ndp : (([(I, oI), (C, oC), (D, oD)] ++ rest).map (·.1)).Nodup := (hp.map (·.1)).nodup_iff.mp nd'
  have into : ∀ z ∈ l', z.1 ≠ I → z.1 ≠ C → z.1 ≠ D → z ∈ rest := fun z hz n1 n2 n3 => in_rest hp hz fun p hp e => by
    subst e
    simp only [List.mem_cons, List.not_mem_nil, or_false] at hp
    rcases hp with rfl | rfl | rfl
    · exact n1 rfl
    · exact n2 rfl
    · exact n3 rfl
  refine ⟨rest, fun p h => hp.mem_iff.mpr h, LCg.Off3.of fun p h => ?_, ?_, ht'.mono fun z hz e => into z hz (by rw [e]; exact tI) (by rw [e]; exact tC) (by rw [e]; exact tD), fun z hz n => into z (keep z (.tail _ (.tail _ (.tail _ hz))) n) (o z hz).1 (o z hz).2.1 (o z hz).2.2⟩
  · simp only [List.cons_append, List.nil_append, List.map_cons, List.nodup_cons, List.mem_cons, not_or] at ndp
    have hm' : p.1 ∈ rest.map (·.1) := List.mem_map_of_mem h
    exact ⟨fun e => ndp.1.2.2 (e ▸ hm'), fun e => ndp.2.1.2 (e ▸ hm'), fun e => ndp.2.2.1 (e ▸ hm')⟩
  · rw [List.map_append] at ndp
    exact (List.nodup_append.mp ndp).2.1
section
variable {prog : Program} {w : World} {A : Around} {E : Value → Shared → Prop} {s : Shared} {h₀ : Heap} {L a : Addr} {m : Str → Option Value} {l : List (Addr × Obj)}
  {R : Result → Shared → Prop} {p : Program} {loose : List Str} {mg mb : Str → Option Value} {cn : Str} {cs : Scope} {cd : Value} {cl cl₀ : List (Str × Addr)}

/-- y = [TABLE[_law_take(tape) % n] for _ in range(e)] -/
theorem comp_take {y lst : Str} {sc : Scope} {c tp la : Addr} {oc : Obj} {TX : List Str} {n : Int} {cnt : Nat} {kk : Nat} {e : Expr} {p1 p2 p3 p4 p5 p6 p7 px py q1 q2 pos spos : Pos} {Q : Flow → Shared → Prop} (hA : Room A 1) (F : Fr h₀ L s.heap m) (X : (Mine.hd.heap_1 w.params).In h₀) (T₀ : TopRead p loose mg mb h₀)
    (D : Ld h₀ L s.heap l) (hl : ∀ h, (Mine.hd.heap_1 w.params).In h → ∃ items : Array Value, h.IsList la items ∧ StrsAre items.toList TX) (hlk : nsIn (Mine.hd.heap_1 w.params) mainGlobals lst = some (some (.ref la))) (hn : (TX.length : Int) = n) (hn0 : 0 < n)
    (hn1 : n < 1000) (hc : cl.lookup (Str.ofString "tape") = some c) (hm : (c, oc) ∈ l) (hd : oc.data = .cell (some (.ref tp))) (hctp : c ≠ tp) (ht : Tp l tp) (hcnt : cnt ≤ 50)
    (he : ∀ (E' : Value → Shared → Prop) (Q' : Value → Shared → Prop), (∀ t tk, Q' (.int cnt t) { s with toks := tk }) → wpAny (model prog w) A (eval e (envX cn cs L a cd cl₀)) Q' E' s)
    (hQ : ∀ b ss h' tk l', (∀ x ∈ ss, x ∈ TX) → ss.length = cnt → Fr h₀ L h' (fun z => if z = y then some (.ref b) else m z) → Ld h₀ L h' l' → Fl l' b ss → (∀ z ∈ l, z.1 ≠ b) → Tp l' tp → (∀ z ∈ l, z.1 ≠ tp → z ∈ l') → Q .next { s with heap := h', toks := tk })
    (hsw : swapsWith (.ListComp (.Subscript (.Name lst p1) (.BinOp (.Call (.Name "_law_take" p2) [.Name "tape" p3] [] p4) .Mod (.Constant (.int n) kk p5) p6) p7) [⟨.Name "_" px, .Call (.Name "range" q1) [e] [] q2, [], 0⟩] sc pos) (some (.Name y py)) spos.line (envX cn cs L a cd cl₀) = pure true)
    (hclos : closureFor sc (envX cn cs L a cd cl₀) = pure cl) (hcell : ∀ z ∈ sc.names, z.2 ≠ .cell) (hkind : sc.kind = .function)
    (hnames : ∀ z ∈ sc.names, z.2 = .local → sc.names.lookup z.1 = some .local) (hx : sc.names.lookup (Str.ofString "_") = some .local)
    (hy : (envX cn cs L a cd cl₀).kindOf y = some .local) (hk : cs.kind = .function) (hr : (envX cn cs L a cd cl₀).kindOf "range" = some .globalImplicit)
    (hx1 : (compEnvC sc cl 0 (envX cn cs 0 a cd cl₀)).kindOf lst = some .globalImplicit) (hx2 : (compEnvC sc cl 0 (envX cn cs 0 a cd cl₀)).kindOf "_law_take" = some .globalImplicit) (hx3 : (compEnvC sc cl 0 (envX cn cs 0 a cd cl₀)).kindOf "tape" = some .cell)
    (hse : starEach [e] (envX cn cs L a cd cl₀) = [(false, eval e (envX cn cs L a cd cl₀))]) (hfold : ∀ x, foldedSetIterable (.Call (.Name "range" q1) [e] [] q2) (envX cn cs L a cd cl₀) x = pure x)
    (hdl : (lst == ("__debug__" : Str)) = false := by decide) :
    wpAny (model prog w) A (exec (.Assign [.Name y py] (.ListComp (.Subscript (.Name lst p1) (.BinOp (.Call (.Name "_law_take" p2) [.Name "tape" p3] [] p4) .Mod (.Constant (.int n) kk p5) p6) p7) [⟨.Name "_" px, .Call (.Name "range" q1) [e] [] q2, [], 0⟩] sc pos) spos) (envX cn cs L a cd cl₀)) Q E s := by
  refine LCg.Assign_ListComp_U F rfl hsw hclos hcell hkind hnames hx hy (by show (cs.kind == .class || (cs.kind == .module && L != mainGlobals)) = false; rw [hk]; rfl) ?_ hfold
  refine Call_ (nameX_B F X T₀ g_range (by boot_fast) (by decide) ?_ hk hr)
  rw [hse]
  refine PyProof.Rows.callWith_type rfl (evalArgs_plain (spliced_cons (he _ _ fun t tk => spliced_nil ?_)))
  refine range1_rows (s := { s with toks := tk }) F D.N fun h₁ tk₁ t₁ u₁ v₁ hR F₁ N₁ hk₁ => ?_
  refine LCg.CompSrc.range (n := cnt) hA.handled F₁ N₁ hR (small_one (by decide) (by decide) (by omega) (by omega)) (by rw [rangeSize_nat]; simp) (by rw [sizeLine_eq]; omega) fun g => ?_
  have key : ∀ (k i : Nat) (ys : List Value) (news : List (Addr × Obj)) (ss : List Str), i + k = cnt → StrsAre ys ss → ss.length = i → (∀ x ∈ ss, x ∈ TX) → (news.map (·.1)).Nodup → Tp news tp → (∀ z ∈ l, z.1 ≠ tp → z ∈ news) →
      LCg.CompRest prog w A h₀ L m (envX cn cs L a cd cl₀) (.Subscript (.Name lst p1) (.BinOp (.Call (.Name "_law_take" p2) [.Name "tape" p3] [] p4) .Mod (.Constant (.int n) kk p5) p6) p7) "_" sc cl { s with heap := g, toks := tk₁ } (fun _ => True) (fun i v => ∃ t, v = .int (0 + (i : Int)) t)
        (LCg.FinA h₀ L m { s with heap := g, toks := tk₁ } y Q) k i ys news := by
    intro k
    induction k with
    | zero =>
      intro i ys news ss hi hys hss hin nd ht' keep
      refine LCg.CompRest.zero fun b h' tk' F' N' o1 => ?_
      have oD : ∀ p ∈ news, p.1 ≠ b := by
        have : ∀ {l : List (Addr × Obj)}, LCg.Off1 b l → ∀ p ∈ l, p.1 ≠ b := by
          intro l
          induction l with
          | nil => intro _ p hp; cases hp
          | cons q l ih =>
            intro h p hp
            rcases List.mem_cons.mp hp with rfl | hp
            · exact h.1
            · exact ih h.2 p hp
        exact this o1
      refine hQ b ss h' tk' _ hin (by omega) F' ⟨N', ?_⟩ ⟨_, _, .head _, by simpa using hys⟩ (fun z hz => ?_) (ht'.mono fun z hz _ => .tail _ hz) fun z hz n => .tail _ (keep z hz n)
      · refine List.nodup_cons.mpr ⟨fun q => ?_, nd⟩
        obtain ⟨p, hp, e⟩ := List.mem_map.mp q
        exact oD p hp e
      · by_cases e : z.1 = tp
        · obtain ⟨vs, k, hm', _, _⟩ := ht'
          rw [e]
          exact oD _ hm'
        · exact oD z (keep z hz e)
    | succ k ih =>
      intro i ys news ss hi hys hss hin nd ht' keep
      refine LCg.CompRest.succ ?_
      intro v I oI C oC D m₂ h tk' E' hv hC hxv F' N' off ne
      have D' : Ld h₀ L h ((I, oI) :: (C, oC) :: (D, LCg.lst ys) :: news) := ⟨N', nd3 nd off ne⟩
      refine tk_elem (s := { s with heap := h, toks := tk' }) hA F' X T₀ D' hl hlk hn hn0 hn1 hc (.tail _ (.tail _ (.tail _ (keep _ hm hctp)))) hd (ht'.mono fun z hz _ => .tail _ (.tail _ (.tail _ hz))) (fun x t h₂ tk₂ l' hxT F₂ D₂ ht₂ keep₂ => ?_) hkind hx1 hx2 hx3 rfl hdl
      obtain ⟨rest, r1, r2, r3, r4, r5⟩ := turn_rest nd off ne D₂.nd ht' ht₂ keep₂
      refine LCg.CompEnd.intro F₂ D₂.N rest r1 r2 trivial ?_
      refine ih (i + 1) _ rest (ss ++ [x]) (by omega) (kct_snoc hys) (by simp [hss]) (fun x' hx' => ?_) r3 r4 fun z hz n => r5 z (keep z hz n) n
      rcases List.mem_append.mp hx' with q | q
      · exact hin x' q
      · rw [List.mem_singleton.mp q]; exact hxT
  exact key cnt 0 [] l [] (by omega) .nil rfl (fun _ h => by cases h) D.nd ht fun z hz _ => hz
end
end
end Mine
end
-- part NG
section
open PySem PySem.W PySem.Calls PyProof.Rows
set_option Elab.async false
set_option maxRecDepth 100000
namespace Mine
noncomputable section
theorem off1_mem {b : Addr} : ∀ {l : List (Addr × Obj)}, LCg.Off1 b l → ∀ p ∈ l, p.1 ≠ b
  | [], _, _, h => by cases h
  | _ :: _, h, p, hp => by
    rcases List.mem_cons.mp hp with rfl | hp
    · exact h.1
    · exact off1_mem h.2 p hp
section
variable {prog : Program} {w : World} {A : Around} {E : Value → Shared → Prop} {s : Shared} {h₀ : Heap} {L a : Addr} {m : Str → Option Value} {l : List (Addr × Obj)}
  {R : Result → Shared → Prop} {p : Program} {loose : List Str} {mg mb : Str → Option Value} {cn : Str} {cs : Scope} {cd : Value} {cl cl₀ : List (Str × Addr)}

/-- y = [c for c in src if c != quote] -/
theorem comp_filter {y src : Str} {sc : Scope} {c sg : Addr} {oc : Obj} {vs : Array Value} {k : Nat} {ss : List Str} {q : Str} {tq : Tok} {p1 p2 p3 p4 px py q1 pos spos : Pos} {Q : Flow → Shared → Prop} (hA : A.handled = none) (F : Fr h₀ L s.heap m)
    (D : Ld h₀ L s.heap l) (hsrc : m src = some (.ref sg)) (hsg : (sg, PySem.W.listOf vs k) ∈ l) (hss : StrsAre vs.toList ss) (hc : cl.lookup (Str.ofString "quote") = some c) (hm : (c, oc) ∈ l) (hd : oc.data = .cell (some (.str q tq))) (hcnt : ss.length ≤ 50)
    (hQ : ∀ b h' tk l', Fr h₀ L h' (fun z => if z = y then some (.ref b) else m z) → Ld h₀ L h' l' → Fl l' b (ss.filter (· != q)) → (∀ z ∈ l, z.1 ≠ b) → (∀ z ∈ l, z ∈ l') → Q .next { s with heap := h', toks := tk })
    (hsw : swapsWith (.ListComp (.Name "c" p1) [⟨.Name "c" px, .Name src q1, [.Compare (.Name "c" p2) [.NotEq] [.Name "quote" p3] p4], 0⟩] sc pos) (some (.Name y py)) spos.line (envX cn cs L a cd cl₀) = pure true)
    (hclos : closureFor sc (envX cn cs L a cd cl₀) = pure cl) (hcell : ∀ z ∈ sc.names, z.2 ≠ .cell) (hkind : sc.kind = .function)
    (hnames : ∀ z ∈ sc.names, z.2 = .local → sc.names.lookup z.1 = some .local) (hx : sc.names.lookup (Str.ofString "c") = some .local)
    (hy : (envX cn cs L a cd cl₀).kindOf y = some .local) (hk : cs.kind = .function) (hr : (envX cn cs L a cd cl₀).kindOf src = some .local)
    (hx1 : (compEnvC sc cl 0 (envX cn cs 0 a cd cl₀)).kindOf "c" = some .local) (hx3 : (compEnvC sc cl 0 (envX cn cs 0 a cd cl₀)).kindOf "quote" = some .cell)
    (hfold : ∀ x, foldedSetIterable (.Name src q1) (envX cn cs L a cd cl₀) x = pure x)
    (hdl : (src == ("__debug__" : Str)) = false := by decide) :
    wpAny (model prog w) A (exec (.Assign [.Name y py] (.ListComp (.Name "c" p1) [⟨.Name "c" px, .Name src q1, [.Compare (.Name "c" p2) [.NotEq] [.Name "quote" p3] p4], 0⟩] sc pos) spos) (envX cn cs L a cd cl₀)) Q E s := by
  have hlen := strs_len hss
  have hsz : vs.size = ss.length := by rw [← Array.length_toList]; exact hlen
  refine LCt.Assign_ListComp_T F rfl hsw hclos hcell hkind hnames hx hy (by show (cs.kind == .class || (cs.kind == .module && L != mainGlobals)) = false; rw [hk]; rfl) ?_ hfold
  refine nameX_L F hsrc ?_ hk hr hdl
  refine LCt.CompSrcT.ledger (k := k) hA F D.N hsg (by rw [sizeLine_eq]; omega) fun g => ?_
  have key : ∀ (k' i : Nat) (ys : List Value), i + k' = vs.size → StrsAre ys ((ss.take i).filter (· != q)) →
      LCt.CompRestT prog w A h₀ L m (envX cn cs L a cd cl₀) (.Compare (.Name "c" p2) [.NotEq] [.Name "quote" p3] p4) (.Name "c" p1) "c" sc cl { s with heap := g } (LCg.SrcAt h₀ sg vs) (fun i v => vs[i]? = some v)
        (LCg.FinA h₀ L m { s with heap := g } y Q) k' i ys l := by
    intro k'
    induction k' with
    | zero =>
      intro i ys hi hys
      refine LCt.CompRestT.zero fun b h' tk' F' N' o1 => ?_
      have oD := off1_mem o1
      rw [List.take_of_length_le (by omega)] at hys
      refine hQ b h' tk' _ F' ⟨N', List.nodup_cons.mpr ⟨fun z => ?_, D.nd⟩⟩ ⟨_, _, .head _, by simpa using hys⟩ oD fun z hz => .tail _ hz
      obtain ⟨p, hp, e⟩ := List.mem_map.mp z
      exact oD p hp e
    | succ k' ih =>
      intro i ys hi hys
      refine LCt.CompRestT.succ ?_
      intro v I oI C oC Dd m₂ h tk' E' hv hC hxv F' N' off ne
      have hv' : vs.toList[i]? = some v := by simpa using hv
      obtain ⟨x, tx, hx', rfl⟩ := strs_get hss hv'
      have D' : Ld h₀ L h ((I, oI) :: (C, oC) :: (Dd, LCg.lst ys) :: l) := ⟨N', nd3 D.nd off ne⟩
      have etk : ss.take (i + 1) = ss.take i ++ [x] := by rw [List.take_add_one, hx']; rfl
      refine wpAny_isTrue_Compare1 (LCgL.ld_own N' (.tail _ (.head _)) hC hxv ?_ hkind hx1)
      refine name_CC (s := { s with heap := h, toks := tk' }) D' hc (.tail _ (.tail _ (.tail _ hm))) hd (PyProof.Rows.ne_str (wpAny_truthy_bool ?_)) hkind hx3
      refine bool_if (fun hq => ?_) (fun hq => ?_)
      · refine LCgL.ld_own (s := { s with heap := h, toks := tk' }) N' (.tail _ (.head _)) hC hxv ?_ hkind hx1
        refine LCg.CompEnd.intro F' N' l (fun _ h => h) off (.inr ⟨_, hsg, rfl, _, rfl⟩) ?_
        refine ih (i + 1) _ (by omega) ?_
        rw [etk, List.filter_append, show [x].filter (· != q) = [x] from by simp [hq]]
        exact kct_snoc hys
      · refine LCg.CompEnd.intro F' N' l (fun _ h => h) off (.inr ⟨_, hsg, rfl, _, rfl⟩) ?_
        refine ih (i + 1) _ (by omega) ?_
        rw [etk, List.filter_append, show [x].filter (· != q) = [] from by simp [hq], List.append_nil]
        exact hys
  exact key vs.size 0 [] (by omega) .nil
end
end
end Mine
end
-- part NH
section
open PySem PySem.W PySem.Calls PyProof.Rows
set_option Elab.async false
set_option maxRecDepth 100000
namespace Mine
noncomputable section
structure IdR (qt : Nat) (ss : List Str) : Prop where
  q : Quot qt
  h : ∀ x ∈ ss, x ∈ SIGNS ∧ x ≠ one qt
  len : ss.length ≤ 3
theorem nd_cells {l : List (Addr × Obj)} {L' : Addr} {o1 o2 : Obj} (nd : (l.map (·.1)).Nodup) (lt : ∀ p ∈ l, p.1 < L') : (([(L' + 1 + 1, o1), (L' + 1, o2)] ++ l).map (·.1)).Nodup := by
  have a1 : L' + 1 + 1 ≠ L' + 1 := Nat.succ_ne_self _
  simp only [List.cons_append, List.nil_append, List.map_cons, List.nodup_cons, List.mem_cons, not_or]
  refine ⟨⟨a1, fun q => ?_⟩, fun q => ?_, nd⟩
  · obtain ⟨p, hp, e⟩ := List.mem_map.mp q
    have := lt p hp
    rw [e] at this
    exact absurd this (Nat.not_lt.mpr (Nat.le_succ_of_le (Nat.le_succ _)))
  · obtain ⟨p, hp, e⟩ := List.mem_map.mp q
    have := lt p hp
    rw [e] at this
    exact absurd this (Nat.not_lt.mpr (Nat.le_succ _))
section
variable {prog : Program} {w : World} {A : Around} {E : Value → Shared → Prop} {s : Shared} {h₀ : Heap} {L a : Addr} {m : Str → Option Value} {l : List (Addr × Obj)}
  {R : Result → Shared → Prop} {p : Program} {loose : List Str} {mg mb : Str → Option Value} {cn : Str} {cs : Scope} {cd : Value} {cl cl₀ : List (Str × Addr)}

theorem join_cat : ∀ ss : List Str, Str.join (Str.ofString "") ss = ⟨(cat ss).toArray⟩
  | [] => rfl
  | [c] => by
    apply Str.ext'
    simp [cat, Str.join]
  | c :: d :: l => by
    have ih := join_cat (d :: l)
    show c ++ Str.ofString "" ++ Str.join (Str.ofString "") (d :: l) = _
    rw [ih]
    apply Str.ext'
    have e0 : (Str.ofString "").cps = #[] := rfl
    simp [cat, Str.cps_append, e0]
theorem len_sum : ∀ ss : List Str, (ss.map (·.length)).sum = (cat ss).length
  | [] => rfl
  | c :: l => by
    have ih := len_sum l
    simp only [cat] at ih
    simp [cat, ih, Str.length]
theorem cat_le : ∀ ss : List Str, (∀ x ∈ ss, SignOk x) → (cat ss).length ≤ 2 * ss.length
  | [], _ => by simp [cat]
  | c :: l, h => by
    have ih := cat_le l fun x hx => h x (.tail _ hx)
    have h1 : c.cps.toList.length ≤ 2 := by
      rcases h c (.head _) with ⟨k, rfl, _⟩ | rfl
      · exact Nat.le_succ_of_le (Nat.le_refl _)
      · exact Nat.le_refl _
    have e : cat (c :: l) = c.cps.toList ++ cat l := by simp [cat]
    rw [e, List.length_append, List.length_cons]
    omega
/-- ''.join(x) -/
theorem e_join {x : Str} {b : Addr} {vs : Array Value} {k kk : Nat} {ss : List Str} {p1 p2 p3 p4 : Pos} {Q : Value → Shared → Prop} (F : Fr h₀ L s.heap m) (D : Ld h₀ L s.heap l) (hx : m x = some (.ref b)) (hb : (b, PySem.W.listOf vs k) ∈ l) (hss : StrsAre vs.toList ss)
    (hsum : (cat ss).length ≤ 10000) (h : ∀ t tk, Q (.str ⟨(cat ss).toArray⟩ t) { s with toks := tk })
    (hk : cs.kind = .function := by rfl) (hy : (envX cn cs L a cd cl).kindOf x = some .local := by rfl) (hd : (x == ("__debug__" : Str)) = false := by decide) :
    wpAny (model prog w) A (eval (.Call (.Attribute (.Constant (.str "") kk p1) "join" p2) [.Name x p3] [] p4) (envX cn cs L a cd cl)) Q E s := by
  refine MCallC ?b1 ?b2
  case b2 => rfl
  intro pl pq
  refine wpAny_Constant_str ?_
  with_reducible refine GM.join ?_
  refine callWith_b1 (nameX_L F hx ?_ hk hy hd)
  refine PyProof.Rows.join_list (News.isList D.N hb) hss ?_ ?_
  · rw [len_sum]
    have e0 : (Str.ofString "").length = 0 := rfl
    rw [e0]
    omega
  intro t' k'
  rw [show Txt.join (Str.ofString "") ss = Str.join (Str.ofString "") ss from StrLaws.glued_eq_join _ _, join_cat]
  exact h _ _
theorem signs_ok : ∀ x ∈ SIGNS, SignOk x := by
  intro x hx
  simp only [SIGNS, List.mem_cons, List.not_mem_nil, or_false] at hx
  rcases hx with rfl | rfl | rfl | rfl | rfl | rfl | rfl | rfl | rfl | rfl | rfl | rfl | rfl
  case inr.inr.inr.inl => exact .inr rfl
  all_goals exact .inl ⟨_, rfl, by decide⟩
theorem names_ok : ∀ x ∈ NAMES, SignOk x := by
  intro x hx
  simp only [NAMES, List.mem_cons, List.not_mem_nil, or_false] at hx
  rcases hx with rfl | rfl | rfl | rfl | rfl | rfl | rfl | rfl | rfl | rfl
  all_goals exact .inl ⟨_, rfl, by decide⟩

set_option maxHeartbeats 2000000 in
theorem ident_in {tp fa : Addr} {fs : List Str} (hA : Room A 3) (F : Fr h₀ L s.heap m) (D : Ld h₀ L s.heap l) (X : (Mine.hd.heap_1 w.params).In h₀) (T₀ : TopRead p loose mg mb h₀) (ht : Tp l tp) (hf : Fl l fa fs) (hne : fa ≠ tp) (hfl : fs.length ≤ 150)
    (hR : ∀ b qt ss piece t1 t2 h' tk l', IdR qt ss → piece.cps.toList = qt :: (cat ss ++ [qt]) → Fr h₀ L h' m → Ld h₀ L h' l' → (b, tup2 piece (clS (nocr (cat ss))) t1 t2) ∈ l' → Tp l' tp → Fl l' fa (fs ++ nulls (nocr (cat ss))) → (∀ z ∈ l, z.1 ≠ tp → z.1 ≠ fa → z ∈ l') →
      R (.ok (.ret (.ref b))) { s with heap := h', toks := tk }) :
    codeAny (model prog w) A (.call (.ref 815) ⟨[.ref tp, .ref fa], []⟩) R s := by
  refine call_MC (binds := [("tape", .ref tp), ("faults", .ref fa)]) hA.lt F D.N X T₀ (f := 815) (by k_is) (by k_is) (BindsTo.of_eq rfl) rfl (by decide) (fun g L' h₁ tk₁ cells F₁ N₁ Y X₁ T₁ lt => ?_)
  obtain ⟨oq, ot, rfl, hoq, hot⟩ := CellsAre.two (n := "quote") (n' := "tape") (c := L' + 1 + 1) (c' := L' + 1) Y
  have hoq' : oq.data = .cell none := hoq
  have hot' : ot.data = .cell (some (.ref tp)) := hot
  have D₁ : Ld g L' h₁ ([(L' + 1 + 1, oq), (L' + 1, ot)] ++ l) := ⟨N₁, nd_cells D.nd lt⟩
  have tlt : tp < L' := by
    obtain ⟨vs, k, hm, _⟩ := ht
    exact lt _ hm
  have flt : fa < L' := by
    obtain ⟨vs, k, hm, _⟩ := hf
    exact lt _ hm
  have nq : L' + 1 + 1 ≠ tp := fun e => absurd tlt (by rw [← e]; exact Nat.not_lt.mpr (Nat.le_succ_of_le (Nat.le_succ _)))
  have nt : L' + 1 ≠ tp := fun e => absurd tlt (by rw [← e]; exact Nat.not_lt.mpr (Nat.le_succ _))
  have nqf : L' + 1 + 1 ≠ fa := fun e => absurd flt (by rw [← e]; exact Nat.not_lt.mpr (Nat.le_succ_of_le (Nat.le_succ _)))
  have nqt : L' + 1 ≠ L' + 1 + 1 := Nat.ne_of_lt (Nat.lt_succ_self _)
  have nql : ∀ z ∈ l, z.1 ≠ L' + 1 + 1 := fun z hz e => absurd (lt z hz) (by rw [e]; exact Nat.not_lt.mpr (Nat.le_succ_of_le (Nat.le_succ _)))
  refine wpAny_execs_cons (wpAny_Assign_Name (call_k1 (K := Mine.hd.heap_1 w.params) kp_take (fun Q' q => nameX_K F₁ X₁ T₁ g_take q) (nameX_C D₁.N rfl (.tail _ (.head _)) hot' ⟨X₁.keeps F₁.keep, wpAny_call ?_⟩)))
  refine take_in (hA.deeper.le (by decide)) F₁ D₁ X₁ T₁ (ht.mono fun z hz _ => .tail _ (.tail _ hz)) fun n tn h₂ tk₂ l₂ n0 n1 F₂ D₂ ht₂ keep₂ => ?_
  refine stX F₂ D₂ fun h₃ tk₃ F₃ D₃ => ?_
  dsimp only
  have mq₂ := keep₂ _ (.head _) nq
  have mt₂ := keep₂ _ (.tail _ (.head _)) nt
  refine wpAny_execs_cons (wpAny_Assign_Name (wpAny_mono (Q := fun v s' => ∃ qt tq tk', v = .str (one qt) tq ∧ Quot qt ∧ s' = { s with heap := h₃, toks := tk' }) ?_ (fun v s' hv => ?_) (fun _ _ e => e)))
  · refine wpAny_IfExp (isTrue_plain (wpAny_BinOp (nameX_L F₃ (if_pos rfl) (wpAny_Constant_int (PyProof.Rows.mod_int (by decide) (P.truthy_int ?_))))))
    refine bool_if (fun _ => ?_) (fun _ => ?_)
    · exact wpAny_Constant_str ⟨39, _, _, rfl, .s, rfl⟩
    · exact wpAny_Constant_str ⟨34, _, _, rfl, .d, rfl⟩
  obtain ⟨qt, tq, tk₄, rfl, hqt, rfl⟩ := hv
  refine st_cell (s := { s with heap := h₃, toks := tk₄ }) F₃ D₃ rfl mq₂ hoq' fun h₄ oq₂ F₄ D₄ hoq₂ => ?_
  have mq₄ : (L' + 1 + 1, oq₂) ∈ setO (L' + 1 + 1) oq₂ l₂ := setO_self mq₂
  have mt₄ : (L' + 1, ot) ∈ setO (L' + 1 + 1) oq₂ l₂ := setO_ne mt₂ nqt
  have ht₄ : Tp (setO (L' + 1 + 1) oq₂ l₂) tp := ht₂.mono fun z hz e => mem_setO hz (by rw [e]; exact Ne.symm nq)
  have c0 : ((((n.fdiv 2).fmod 4).toNat : Nat) : Int) = (n.fdiv 2).fmod 4 := by
    have : (n.fdiv 2).fmod 4 = (n.fdiv 2) % 4 := Int.fmod_eq_emod_of_nonneg _ (by decide)
    have h0 : 0 ≤ (n.fdiv 2) % 4 := Int.emod_nonneg _ (by decide)
    omega
  have c1 : ((n.fdiv 2).fmod 4).toNat ≤ 3 := by
    have : (n.fdiv 2).fmod 4 = (n.fdiv 2) % 4 := Int.fmod_eq_emod_of_nonneg _ (by decide)
    have h0 : (n.fdiv 2) % 4 < 4 := Int.emod_lt_of_pos _ (by decide)
    omega
  refine wpAny_execs_cons (comp_take (tp := tp) (TX := SIGNS) (la := 768) (c := L' + 1) (oc := ot) (cl := [("tape", L' + 1)]) (cnt := ((n.fdiv 2).fmod 4).toNat) (hA.deeper.le (by decide)) F₄ X₁ T₁ D₄ (fun _ h => signs_is h) g_signs rfl (by decide) (by decide) rfl mt₄ hot' nt ht₄ (by omega) (fun E' Q' q => ?_)
    (fun b ss h₅ tk₅ l₅ hss hlen F₅ D₅ hf₅ nb₅ ht₅ keep₅ => ?_) (by with_unfolding_all rfl) (by with_unfolding_all rfl) (by decide) rfl (by decide) rfl rfl rfl rfl rfl rfl rfl rfl (fun _ => rfl))
  · refine wpAny_BinOp (wpAny_BinOp (nameX_L F₄ (if_pos rfl) (wpAny_Constant_int (PyProof.Rows.floordiv_int (by decide) ?_ (.inl (PyProof.noPylong_small (by decide)))))))
    refine wpAny_Constant_int (PyProof.Rows.mod_int (by decide) ?_)
    have q' := q s.toks 0
    rw [c0] at q
    exact q _ _
  have mq₅ := keep₅ _ mq₄ nq
  obtain ⟨vs, k, hm₅, hvs₅⟩ := hf₅
  refine wpAny_execs_cons (comp_filter (s := { s with heap := h₅, toks := tk₅ }) (cl := [("quote", L' + 1 + 1)]) hA.handled F₅ D₅ (if_pos rfl) hm₅ hvs₅ rfl mq₅ hoq₂ (by omega)
    (fun b₆ h₆ tk₆ l₆ F₆ D₆ hf₆ nb₆ keep₆ => ?_) (by with_unfolding_all rfl) (by with_unfolding_all rfl) (by decide) rfl (by decide) rfl rfl rfl rfl rfl rfl (fun _ => rfl))
  have mq₆ := keep₆ _ mq₅
  have hst : ∀ x ∈ ss.filter (· != one qt), x ∈ SIGNS ∧ x ≠ one qt := fun x hx => by
    have := List.mem_filter.mp hx
    exact ⟨hss x this.1, by simpa using this.2⟩
  have hso : ∀ x ∈ ss.filter (· != one qt), SignOk x := fun x hx => signs_ok x (hst x hx).1
  have hlf : (ss.filter (· != one qt)).length ≤ 3 := Nat.le_trans (List.length_filter_le _ _) (by omega)
  have hcl := cat_le _ hso
  obtain ⟨vs₆, k₆, hm₆, hvs₆⟩ := id hf₆
  refine wpAny_execs_cons (wpAny_Return_some (Tuple_ (wpAny_items_cons ?_)))
  refine wpAny_BinOp (wpAny_BinOp (nameX_C D₆.N rfl mq₆ hoq₂ ?_))
  refine e_join (s := { s with heap := h₆, toks := tk₆ }) F₆ D₆ (if_pos rfl) hm₆ hvs₆ (by omega) fun t₇ tk₇ => ?_
  have lq : (one qt).length = 1 := rfl
  have lc : (⟨(cat (ss.filter (· != one qt))).toArray⟩ : Str).length = (cat (ss.filter (· != one qt))).length := by simp [Str.length]
  refine SB.add (fun t₈ tk₈ => ?_) (by rw [sizeLine_eq]; omega)
  refine nameX_C D₆.N rfl mq₆ hoq₂ ?_
  refine SB.add (fun t₉ tk₉ => ?_) (by rw [sizeLine_eq, Str.length_append]; omega)
  refine wpAny_items_cons ?_
  refine Call_ (nameX_K F₆ X₁ T₁ g_clean ?_)
  refine callWith_k2 (K := Mine.hd.heap_1 w.params) kp_clean (nameX_L F₆ (if_pos rfl) (nameX_L F₆ rfl ⟨X₁.keeps F₆.keep, wpAny_call ?_⟩))
  have flow : ∀ z ∈ l, z.1 ≠ tp → z ∈ l₆ := fun z hz n => keep₆ _ (keep₅ _ (mem_setO (keep₂ _ (.tail _ (.tail _ hz)) n) (nql z hz)) n)
  have hf₆' : Fl l₆ fa fs := hf.mono fun z hz e => flow z hz (by rw [e]; exact hne)
  have nfa : b₆ ≠ fa := fun e => by
    obtain ⟨fv, kf, hm, _⟩ := hf
    exact nb₆ _ (keep₅ _ (mem_setO (keep₂ _ (.tail _ (.tail _ hm)) hne) (nql _ hm)) hne) e.symm
  refine clean_in (s := { s with heap := h₆, toks := tk₉ }) hso nfa (by omega) (by omega) (hA.deeper.le (by decide)) F₆ D₆ X₁ T₁ hf₆ hf₆' fun t₁₀ h₁₀ tk₁₀ l₁₀ F₁₀ D₁₀ hf₁₀ keep₁₀ => ?_
  refine wpAny_items_nil ?_
  refine newTup_ld (s := { s with heap := h₁₀, toks := tk₁₀ }) F₁₀ D₁₀ (fun b h₁₁ F₁₁ D₁₁ => ?_) (by show 2 ≤ sizeLine; decide)
  refine leaveK_ F₁₁ D₁₁.N fun F₁₂ N₁₂ => hR b qt (ss.filter (· != one qt)) _ _ _ _ _ _ ⟨hqt, hst, hlf⟩ ?_ F₁₂ ⟨N₁₂, D₁₁.nd⟩ (List.mem_append_right _ (.head _)) ?_ ?_ fun z hz n1 n2 => List.mem_append_left _ (keep₁₀ _ (flow z hz n1) n2)
  · simp [Str.cps_append, one]
  · exact ht₅.mono fun z hz e => List.mem_append_left _ (keep₁₀ _ (keep₆ _ hz) (by rw [e]; exact Ne.symm hne))
  · obtain ⟨fv, kf, hm, hv⟩ := hf₁₀
    exact ⟨fv, kf, List.mem_append_left _ hm, hv⟩
end
end
end Mine
end
-- part NI
section
open PySem PySem.W PySem.Calls PyProof.Rows
set_option Elab.async false
set_option maxRecDepth 100000
namespace Mine
noncomputable section
noncomputable def GAPS : List Str := [one 32, Str.ofString "", one 10, ⟨#[9, 32, 13, 10]⟩, one 12]
noncomputable def JUNKS : List Str := [Str.ofString "", one 120, Str.ofString "", ⟨#[91, 97, 93]⟩, ⟨#[61, 0]⟩]
noncomputable def BEHINDS : List Str := [Str.ofString "", ⟨#[97, 62]⟩, one 62, ⟨#[60, 33, 45, 45]⟩, crlf, one 0]
section
variable {prog : Program} {w : World} {A : Around} {E : Value → Shared → Prop} {s : Shared} {h₀ : Heap} {L a : Addr} {m : Str → Option Value} {l : List (Addr × Obj)}
  {R : Result → Shared → Prop} {p : Program} {loose : List Str} {mg mb : Str → Option Value} {cn : Str} {cs : Scope} {cd : Value} {cl cl₀ : List (Str × Addr)}

theorem gaps_in (hA : Room A 1) (F : Fr h₀ L s.heap m) (D : Ld h₀ L s.heap l) (X : (Mine.hd.heap_1 w.params).In h₀) (T₀ : TopRead p loose mg mb h₀)
    (hR : ∀ b vs h' tk, StrsAre vs GAPS → Fr h₀ L h' m → Ld h₀ L h' (l ++ [(b, PySem.W.listOf vs.toArray 0)]) → R (.ok (.ret (.ref b))) { s with heap := h', toks := tk }) :
    codeAny (model prog w) A (.call (.ref 775) ⟨[], []⟩) R s := by
  refine call_M (binds := []) hA.lt F D.N X T₀ (f := 775) (by k_is) (by k_is) (BindsTo.of_eq rfl) (locs rfl) (fun g L' h₁ F₁ N₁ X₁ T₁ lt => ?_) (by decide)
  refine wpAny_execs_cons (wpAny_Return_some (List_ (wpAny_items_cons (wpAny_Constant_str (wpAny_items_cons (wpAny_Constant_str (wpAny_items_cons (wpAny_Constant_str (wpAny_items_cons (wpAny_Constant_str (wpAny_items_cons (wpAny_Constant_str (wpAny_items_nil ?_)))))))))))))
  refine newList_ld F₁ ⟨N₁, D.nd⟩ (fun b h₂ F₂ D₂ => ?_) (by show 5 ≤ sizeLine; decide)
  refine leaveK_ F₂ D₂.N fun F₃ N₃ => hR b _ _ _ ?_ F₃ ⟨N₃, D₂.nd⟩
  exact .cons _ _ (.cons _ _ (.cons _ _ (.cons _ _ (.cons _ _ .nil))))
theorem junk_in (hA : Room A 1) (F : Fr h₀ L s.heap m) (D : Ld h₀ L s.heap l) (X : (Mine.hd.heap_1 w.params).In h₀) (T₀ : TopRead p loose mg mb h₀)
    (hR : ∀ b vs h' tk, StrsAre vs JUNKS → Fr h₀ L h' m → Ld h₀ L h' (l ++ [(b, PySem.W.listOf vs.toArray 0)]) → R (.ok (.ret (.ref b))) { s with heap := h', toks := tk }) :
    codeAny (model prog w) A (.call (.ref 782) ⟨[], []⟩) R s := by
  refine call_M (binds := []) hA.lt F D.N X T₀ (f := 782) (by k_is) (by k_is) (BindsTo.of_eq rfl) (locs rfl) (fun g L' h₁ F₁ N₁ X₁ T₁ lt => ?_) (by decide)
  refine wpAny_execs_cons (wpAny_Return_some (List_ (wpAny_items_cons (wpAny_Constant_str (wpAny_items_cons (wpAny_Constant_str (wpAny_items_cons (wpAny_Constant_str (wpAny_items_cons (wpAny_Constant_str (wpAny_items_cons (wpAny_Constant_str (wpAny_items_nil ?_)))))))))))))
  refine newList_ld F₁ ⟨N₁, D.nd⟩ (fun b h₂ F₂ D₂ => ?_) (by show 5 ≤ sizeLine; decide)
  refine leaveK_ F₂ D₂.N fun F₃ N₃ => hR b _ _ _ ?_ F₃ ⟨N₃, D₂.nd⟩
  exact .cons _ _ (.cons _ _ (.cons _ _ (.cons _ _ (.cons _ _ .nil))))
theorem behind_in (hA : Room A 1) (F : Fr h₀ L s.heap m) (D : Ld h₀ L s.heap l) (X : (Mine.hd.heap_1 w.params).In h₀) (T₀ : TopRead p loose mg mb h₀)
    (hR : ∀ b vs h' tk, StrsAre vs BEHINDS → Fr h₀ L h' m → Ld h₀ L h' (l ++ [(b, PySem.W.listOf vs.toArray 0)]) → R (.ok (.ret (.ref b))) { s with heap := h', toks := tk }) :
    codeAny (model prog w) A (.call (.ref 789) ⟨[], []⟩) R s := by
  refine call_M (binds := []) hA.lt F D.N X T₀ (f := 789) (by k_is) (by k_is) (BindsTo.of_eq rfl) (locs rfl) (fun g L' h₁ F₁ N₁ X₁ T₁ lt => ?_) (by decide)
  refine wpAny_execs_cons (wpAny_Return_some (List_ (wpAny_items_cons (wpAny_Constant_str (wpAny_items_cons (wpAny_Constant_str (wpAny_items_cons (wpAny_Constant_str (wpAny_items_cons (wpAny_Constant_str (wpAny_items_cons (wpAny_Constant_str (wpAny_items_cons (wpAny_Constant_str (wpAny_items_nil ?_)))))))))))))))
  refine newList_ld F₁ ⟨N₁, D.nd⟩ (fun b h₂ F₂ D₂ => ?_) (by show 6 ≤ sizeLine; decide)
  refine leaveK_ F₂ D₂.N fun F₃ N₃ => hR b _ _ _ ?_ F₃ ⟨N₃, D₂.nd⟩
  exact .cons _ _ (.cons _ _ (.cons _ _ (.cons _ _ (.cons _ _ (.cons _ _ .nil)))))

/-- TABLE()[i] -/
theorem e_pick {fnm : Str} {f : Addr} {TX : List Str} {idx : Expr} {i : Int} {p1 p2 p3 : Pos} {Q : Value → Shared → Prop} (hA : Room A 1) (F : Fr h₀ L s.heap m) (X : (Mine.hd.heap_1 w.params).In h₀) (T₀ : TopRead p loose mg mb h₀) (D : Ld h₀ L s.heap l)
    (hcall : ∀ (A : Around) (s : Shared) (h₀ : Heap) (L : Addr) (m : Str → Option Value) (l : List (Addr × Obj)) (R : Result → Shared → Prop), Room A 1 → Fr h₀ L s.heap m → Ld h₀ L s.heap l → (Mine.hd.heap_1 w.params).In h₀ → TopRead p loose mg mb h₀ →
      (∀ b vs h' tk, StrsAre vs TX → Fr h₀ L h' m → Ld h₀ L h' (l ++ [(b, PySem.W.listOf vs.toArray 0)]) → R (.ok (.ret (.ref b))) { s with heap := h', toks := tk }) → codeAny (model prog w) A (.call (.ref f) ⟨[], []⟩) R s)
    (hg : nsIn (Mine.hd.heap_1 w.params) mainGlobals fnm = some (some (.ref f))) (hkp : keepIn (Mine.hd.heap_1 w.params) (.ref f) = true)
    (he : ∀ (s₁ : Shared) (E' : Value → Shared → Prop) (Q' : Value → Shared → Prop), Fr h₀ L s₁.heap m → (∀ t tk, Q' (.int i t) { s₁ with toks := tk }) → wpAny (model prog w) A (eval idx (envX cn cs L a cd cl)) Q' E' s₁)
    (h0 : 0 ≤ i) (h1 : i < TX.length) (hbig : TX.length ≤ 1000)
    (h : ∀ x t h' tk l', TX[i.toNat]? = some x → Fr h₀ L h' m → Ld h₀ L h' l' → (∀ z ∈ l, z ∈ l') → Q (.str x t) { s with heap := h', toks := tk })
    (hk : cs.kind = .function := by rfl) (hx : (envX cn cs L a cd cl).kindOf fnm = some .globalImplicit := by rfl) (hd : (fnm == ("__debug__" : Str)) = false := by decide)
    (hs : ∀ (b : Addr) (u : Tok), subscripted idx false (.ref b) (.int i u) = operate [.ref b, .int i u] (getItem (.ref b) (.int i u)) := by intro _ _; with_unfolding_all rfl) :
    wpAny (model prog w) A (eval (.Subscript (.Call (.Name fnm p1) [] [] p2) idx p3) (envX cn cs L a cd cl)) Q E s := by
  refine Subscript_ (call_k0 (K := Mine.hd.heap_1 w.params) hkp (X.keeps F.keep) (fun Q' q => nameX_K F X T₀ hg q hk hx hd) (wpAny_call ?_))
  refine hcall A s h₀ L m l _ hA F D X T₀ fun b vs h' tk hvs F' D' => ?_
  refine he { s with heap := h', toks := tk } _ _ F' fun t tk' => ?_
  have hil := News.isList D'.N (List.mem_append_right l (.head _) : (b, PySem.W.listOf vs.toArray 0) ∈ l ++ [(b, PySem.W.listOf vs.toArray 0)])
  have hsz : vs.length = TX.length := strs_len hvs
  have hlt : i.toNat < vs.length := by omega
  have hget : vs[i.toNat]? = some vs[i.toNat] := by simp [hlt]
  obtain ⟨x, tx, hx', hv⟩ := strs_get hvs hget
  refine tail_any (ops := [.ref b, .int i t]) hil.typeIs slot_list_getitem.lookup (wpAny_getItem_list hil h0 (by omega) (by rw [List.getElem?_toArray]; exact hget.trans (congrArg some hv)) ?_) (hs _ _)
  exact h _ _ _ _ _ hx' F' D' fun z hz => List.mem_append_left _ hz

/-- v // a % b -/
theorem e_dm {x : Str} {n a' b' : Int} {u : Tok} {k1 k2 : Nat} {p1 p2 p3 p4 p5 : Pos} {Q : Value → Shared → Prop} (F : Fr h₀ L s.heap m) (hx : m x = some (.int n u)) (ha : a' ≠ 0) (ha' : a'.natAbs < 1073741824) (hb : b' ≠ 0)
    (h : ∀ t tk, Q (.int ((n.fdiv a').fmod b') t) { s with toks := tk })
    (hk : cs.kind = .function := by rfl) (hy : (envX cn cs L a cd cl).kindOf x = some .local := by rfl) (hd : (x == ("__debug__" : Str)) = false := by decide) :
    wpAny (model prog w) A (eval (.BinOp (.BinOp (.Name x p1) .FloorDiv (.Constant (.int a') k1 p2) p3) .Mod (.Constant (.int b') k2 p4) p5) (envX cn cs L a cd cl)) Q E s :=
  wpAny_BinOp (wpAny_BinOp (nameX_L F hx (wpAny_Constant_int (PyProof.Rows.floordiv_int ha (wpAny_Constant_int (PyProof.Rows.mod_int hb (h _ _))) (.inl (PyProof.noPylong_small ha')))) hk hy hd))
theorem e_m {x : Str} {n b' : Int} {u : Tok} {k2 : Nat} {p1 p4 p5 : Pos} {Q : Value → Shared → Prop} (F : Fr h₀ L s.heap m) (hx : m x = some (.int n u)) (hb : b' ≠ 0)
    (h : ∀ t tk, Q (.int (n.fmod b') t) { s with toks := tk })
    (hk : cs.kind = .function := by rfl) (hy : (envX cn cs L a cd cl).kindOf x = some .local := by rfl) (hd : (x == ("__debug__" : Str)) = false := by decide) :
    wpAny (model prog w) A (eval (.BinOp (.Name x p1) .Mod (.Constant (.int b') k2 p4) p5) (envX cn cs L a cd cl)) Q E s :=
  wpAny_BinOp (nameX_L F hx (wpAny_Constant_int (PyProof.Rows.mod_int hb (h _ _))) hk hy hd)
theorem e_d {x : Str} {n a' : Int} {u : Tok} {k1 : Nat} {p1 p2 p3 : Pos} {Q : Value → Shared → Prop} (F : Fr h₀ L s.heap m) (hx : m x = some (.int n u)) (ha : a' ≠ 0) (ha' : a'.natAbs < 1073741824)
    (h : ∀ t tk, Q (.int (n.fdiv a') t) { s with toks := tk })
    (hk : cs.kind = .function := by rfl) (hy : (envX cn cs L a cd cl).kindOf x = some .local := by rfl) (hd : (x == ("__debug__" : Str)) = false := by decide) :
    wpAny (model prog w) A (eval (.BinOp (.Name x p1) .FloorDiv (.Constant (.int a') k1 p2) p3) (envX cn cs L a cd cl)) Q E s :=
  wpAny_BinOp (nameX_L F hx (wpAny_Constant_int (PyProof.Rows.floordiv_int ha (h _ _) (.inl (PyProof.noPylong_small ha')))) hk hy hd)

/-- x.append(e) for a list that a local holds -/
theorem op_appX {x y : Str} {b : Addr} {items : Array Value} {k : Nat} {e : Expr} {p1 p2 p3 p4 : Pos} {Q : Flow → Shared → Prop} (F : Fr h₀ L s.heap m) (D : Ld h₀ L s.heap l) (hx : m x = some (.ref b)) (hb : (b, PySem.W.listOf items k) ∈ l) (hsz : items.size ≤ 10000)
    (he : ∀ (E' : Value → Shared → Prop) (Q' : Value → Shared → Prop), (∀ t tk, Q' (.str y t) { s with toks := tk }) → wpAny (model prog w) A (eval e (envX cn cs L a cd cl)) Q' E' s)
    (h : ∀ t h' tk, Fr h₀ L h' m → Ld h₀ L h' (setO b (PySem.W.listOf (items.push (.str y t)) (k + 1)) l) → Q .next { s with heap := h', toks := tk })
    (hs : starEach [e] (envX cn cs L a cd cl) = [(false, eval e (envX cn cs L a cd cl))] := by rfl) (hp : (p2.endLine == p3.line) = true := by rfl)
    (hk : cs.kind = .function := by rfl) (hy : (envX cn cs L a cd cl).kindOf x = some .local := by rfl) (hd : (x == ("__debug__" : Str)) = false := by decide) :
    wpAny (model prog w) A (exec (.Expr (.Call (.Attribute (.Name x p1) "append" p2) [e] [] p3) p4) (envX cn cs L a cd cl)) Q E s := by
  refine wpAny_Expr (MCallN (fun pl => nameX_L F hx ?_ hk hy hd) (by rw [hs]; rfl) hp) (by unfold interactive; rw [show (envX cn cs L a cd cl).scope.kind = .function from hk]; rfl)
  refine getMethod_append_N D.N hb ?_
  have e0 : backTo p3 (starEach [e] (envX cn cs L a cd cl)) = [(false, eval e (envX cn cs L a cd cl))] := by rw [hs]; rfl
  show wpAny (model prog w) A (callWith p3 (.builtin "list.append") [.ref b] (backTo p3 (starEach [e] (envX cn cs L a cd cl))) []) _ E _
  rw [e0]
  refine callWith_builtin rfl (evalArgs_plain (spliced_cons (he _ _ fun t tk => spliced_nil ?_)))
  exact append_K F D.N (setO_upd D.nd hb) (fun h'' F'' N'' => h _ _ _ F'' ⟨N'', setO_nd D.nd⟩) (by rw [sizeLine_eq]; omega)

/-- if gap == '': faults.append(x) -/
theorem op_fault {gv : Str} {g x : Str} {fa : Addr} {fs : List Str} {tg : Tok} {e : Expr} {kk : Nat} {p1 p2 p3 p4 p5 p6 p7 p8 : Pos} {Q : Flow → Shared → Prop} (F : Fr h₀ L s.heap m) (D : Ld h₀ L s.heap l) (hgv : m gv = some (.str g tg)) (hfm : m "faults" = some (.ref fa)) (hf : Fl l fa fs) (hfl : fs.length ≤ 1000)
    (he : ∀ (s₁ : Shared) (E' : Value → Shared → Prop) (Q' : Value → Shared → Prop), Fr h₀ L s₁.heap m → (∀ t tk, Q' (.str x t) { s₁ with toks := tk }) → wpAny (model prog w) A (eval e (envX cn cs L a cd cl)) Q' E' s₁)
    (h : ∀ h' tk l', Fr h₀ L h' m → Ld h₀ L h' l' → Fl l' fa (fs ++ if g = Str.ofString "" then [x] else []) → (∀ z ∈ l, z.1 ≠ fa → z ∈ l') → Q .next { s with heap := h', toks := tk })
    (hs : starEach [e] (envX cn cs L a cd cl) = [(false, eval e (envX cn cs L a cd cl))] := by rfl) (hp : (p5.endLine == p6.line) = true := by rfl)
    (hk : cs.kind = .function := by rfl) (hy : (envX cn cs L a cd cl).kindOf gv = some .local := by rfl) (hz : (envX cn cs L a cd cl).kindOf "faults" = some .local := by rfl) (hd : (gv == ("__debug__" : Str)) = false := by decide) :
    wpAny (model prog w) A (exec (.If (.Compare (.Name gv p1) [.Eq] [.Constant (.str "") kk p2] p3) [.Expr (.Call (.Attribute (.Name "faults" p4) "append" p5) [e] [] p6) p7] [] p8) (envX cn cs L a cd cl)) Q E s := by
  obtain ⟨fv, kf, hm, hv⟩ := hf
  have hl := strs_len hv
  have hsz : fv.size ≤ 10000 := by rw [← Array.length_toList]; omega
  refine wpAny_If (wpAny_isTrue_Compare1 (nameX_L F hgv (wpAny_Constant_str (eq_str (wpAny_truthy_bool ?_))) hk hy hd))
  refine bool_if (fun hq => ?_) (fun hq => ?_)
  · have hg : g = Str.ofString "" := by simpa using hq
    rw [if_pos hg] at h
    refine wpAny_execs_cons (op_appX (s := { s with toks := s.toks + 1 }) F D hfm hm hsz (fun E' Q' q => he _ E' Q' F q) (fun t h' tk F' D' => ?_) hs hp hk hz)
    refine wpAny_execs_nil ?_
    exact h _ _ _ F' D' (Fl.push hm hv) fun z hz n => mem_setO hz n
  · have hg : g ≠ Str.ofString "" := by simpa using hq
    rw [if_neg hg, List.append_nil] at h
    refine wpAny_execs_nil ?_
    exact h _ _ _ F D ⟨fv, kf, hm, hv⟩ fun z hz _ => hz
end
end
end Mine
end
-- part NJ
section
open PySem PySem.W PySem.Calls PyProof.Rows
set_option Elab.async false
set_option maxRecDepth 100000
namespace Mine
noncomputable section
noncomputable def zsC (c : Nat) : Nat := if (c == 90 || c == 83) = true then c + 32 else c
theorem join_onesF (f : Nat → Nat) (l : List Nat) : Txt.join (Str.ofString "") (l.map fun c => one (f c)) = ⟨(l.map f).toArray⟩ := join_ones' f l
section
variable {prog : Program} {w : World} {A : Around} {E : Value → Shared → Prop} {s : Shared} {h₀ : Heap} {L a : Addr} {m : Str → Option Value} {l : List (Addr × Obj)}
  {R : Result → Shared → Prop} {p : Program} {loose : List Str} {mg mb : Str → Option Value} {cn : Str} {cs : Scope} {cd : Value} {cl cl₀ : List (Str × Addr)}

/-- a comprehension over the signs of a text, without tests -/
theorem comp_strE {env : Env} {elt iter : Expr} {x : Str} {px : Pos} {scope : Scope} {pos : Pos} {y : Str} {f : Nat → Str} {Q : Value → Shared → Prop}
    (hh : A.handled = none) (hfree : ∀ y ∈ scope.names, y.2 ≠ .free) (hcell : ∀ y ∈ scope.names, y.2 ≠ .cell) (hkind : scope.kind = .function)
    (hnames : ∀ y ∈ scope.names, y.2 = .local → scope.names.lookup y.1 = some .local) (hx : scope.names.lookup x = some .local)
    (hy : y.length ≤ sizeLine)
    (h : wpAny (model prog w) A (eval iter env) (fun xv s₁ => (∃ t, xv = .str y t) ∧
      (∀ C ch u s₃ m₃ E', s₃.heap.Ns C m₃ → m₃ x = some (.str (one ch) u) → (∀ b o, s₁.heap.get? b = some o → s₃.heap.get? b = some o) →
        wpAny (model prog w) A (eval elt (compEnv scope C env)) (fun r s₄ => (∃ t, r = .str (f ch) t) ∧ Keeps s₃ s₄) E' s₃) ∧
      (∀ D ts h' tk, s₁.heap.get? D = none → h'.IsList D (strValues ts).toArray → ts.map (·.1) = y.cps.toList.map f → (∀ b o, s₁.heap.get? b = some o → h'.get? b = some o) → Q (.ref D) { s₁ with heap := h', toks := tk })) E s)
    (hs : ∀ x, foldedSetIterable iter env x = pure x := by intro _; rfl) :
    wpAny (model prog w) A (eval (.ListComp elt [⟨.Name x px, iter, [], 0⟩] scope pos) env) Q E s := by
  refine wpAny_ListComp_walk (fun _ => true) (fun v r => ∀ c u, v = .str (one c) u → ∃ t, r = .str (f c) t) hfree hcell hkind hnames hx (wpAny_mono h (fun xv s₁ h₁ => ?_) fun _ _ e => e) hs
  obtain ⟨⟨t, rfl⟩, helt, hQ⟩ := h₁
  refine wpAny_pyIter_str fun o St W hst => ?_
  have up : ∀ (h' : Heap), (∀ b o', b ∉ [s₁.heap.objs.size] → (s₁.heap.push o).get? b = some o' → h'.get? b = some o') → ∀ b o', s₁.heap.get? b = some o' → h'.get? b = some o' :=
    fun h' hk b o' e => hk b o' (old_not_new e) (Heap.get?_push_of_some _ e)
  refine ⟨s₁.heap.objs.size, [s₁.heap.objs.size], [s₁.heap.objs.size], y.cps.size, SignAt y, St, rfl, W A hh, hy, hst, ?_, ⟨?_, ?_⟩, ?_⟩
  · intro b hb
    show b < (s₁.heap.push o).objs.size
    rw [Heap.size_push, List.mem_singleton.mp hb]
    exact Nat.lt_succ_self _
  · intro C i v s₃ m₃ E' hP hn hm hk _
    exact wpAny_tests_nil ⟨rfl, s₃.heap, s₃.toks, rfl, fun _ _ e => e⟩
  · intro C i v s₃ m₃ E' hP hp hn hm hk _
    obtain ⟨c, u, _, rfl⟩ := hP
    refine wpAny_mono (helt C c u s₃ m₃ E' hn hm (up s₃.heap hk)) (fun r s₄ h₄ => ⟨fun c' u' e => ?_, h₄.2⟩) fun _ _ e => e
    have : c = c' := by
      injection e with e1 _
      have := congrArg (fun x : Str => x.cps[0]!) e1
      simpa [one] using this
    exact this ▸ h₄.1
  · intro D h' tk ys vs hnew hlD hplD hlen hP hF hk
    have hF' : Paired (fun v r => ∀ c u, v = .str (one c) u → ∃ t, r = .str (f c) t) vs ys.toList := by
      have e : vs.filter (fun _ => true) = vs := List.filter_eq_self.mpr fun _ _ => rfl
      rw [e] at hF; exact hF
    obtain ⟨ts, e1, e2⟩ := paired_texts (x := x) y.cps.toList vs ys.toList (by simpa using hlen) (fun j v hv => by
      obtain ⟨c, u, hc, e⟩ := hP j v hv
      exact ⟨c, u, by simpa using hc, e⟩) hF'
    refine hQ D ts h' tk ?_ (by rw [← e1, Array.toArray_toList]; exact hlD) e2 (up h' hk)
    cases q : s₁.heap.get? D with
    | none => rfl
    | some o' => rw [Heap.get?_push_of_some _ q] at hnew; cases hnew

set_option maxHeartbeats 1000000 in
/-- ''.join([chr(ord(c) + 32) if c in ['Z', 'S'] else c for c in _law_clean(name, faults)]) -/
theorem e_name2 {sc : Scope} {sg fa : Addr} {ss fs : List Str} {k0 k1 k2 k3 : Nat} {q2 q3 q4 a1 a2 a3 a4 a5 a6 a7 a8 a9 a10 a11 a12 a13 a14 b1 b2 b3 b4 b5 b6 : Pos} {Q : Value → Shared → Prop} (hss : ∀ c ∈ ss, SignOk c) (hne : sg ≠ fa) (hlen : ss.length ≤ 50) (hfl : fs.length ≤ 200) (hA : Room A 1) (F : Fr h₀ L s.heap m) (D : Ld h₀ L s.heap l) (X : (Mine.hd.heap_1 w.params).In h₀) (T₀ : TopRead p loose mg mb h₀)
    (hm1 : m "name" = some (.ref sg)) (hm2 : m "faults" = some (.ref fa)) (hs : Fl l sg ss) (hf : Fl l fa fs)
    (h : ∀ t h' tk l', Fr h₀ L h' m → Ld h₀ L h' l' → Fl l' fa (fs ++ nulls (nocr (cat ss))) → (∀ z ∈ l, z.1 ≠ fa → z ∈ l') → Q (.str ⟨((clS (nocr (cat ss))).cps.toList.map zsC).toArray⟩ t) { s with heap := h', toks := tk })
    (hfree : ∀ y ∈ sc.names, y.2 ≠ .free) (hcell : ∀ y ∈ sc.names, y.2 ≠ .cell) (hkind : sc.kind = .function)
    (hnames : ∀ y ∈ sc.names, y.2 = .local → sc.names.lookup y.1 = some .local) (hx : sc.names.lookup (Str.ofString "c") = some .local) (hy : (envX cn cs L a cd cl).kindOf "name" = some .local) (hz : (envX cn cs L a cd cl).kindOf "faults" = some .local)
    (hkc : (envX cn cs L a cd cl).kindOf "_law_clean" = some .globalImplicit) (hk : cs.kind = .function)
    (hx1 : ∀ C, (compEnv sc C (envX cn cs L a cd cl)).kindOf "c" = some .local) (hx2 : ∀ C, (compEnv sc C (envX cn cs L a cd cl)).kindOf "chr" = some .globalImplicit) (hx3 : ∀ C, (compEnv sc C (envX cn cs L a cd cl)).kindOf "ord" = some .globalImplicit)
    (hkk : ∀ C, (compEnv sc C (envX cn cs L a cd cl)).scope.kind = .function) (hfold : ∀ x, foldedSetIterable (.Call (.Name "_law_clean" b2) [.Name "name" b3, .Name "faults" b4] [] b5) (envX cn cs L a cd cl) x = pure x) :
    wpAny (model prog w) A (eval (.Call (.Attribute (.Constant (.str "") k0 q2) "join" q3) [.ListComp (.IfExp (.Compare (.Name "c" a1) [.In] [.List [.Constant (.str "Z") k1 a2, .Constant (.str "S") k2 a3] a4] a5)
      (.Call (.Name "chr" a6) [.BinOp (.Call (.Name "ord" a7) [.Name "c" a8] [] a9) .Add (.Constant (.int 32) k3 a10) a11] [] a12) (.Name "c" a13) a14) [⟨.Name "c" b1, .Call (.Name "_law_clean" b2) [.Name "name" b3, .Name "faults" b4] [] b5, [], 0⟩] sc b6] [] q4) (envX cn cs L a cd cl)) Q E s := by
  refine MCallC ?b1 ?b2
  case b2 => rfl
  intro pl pq
  refine wpAny_Constant_str ?_
  with_reducible refine GM.join ?_
  refine callWith_b1 ?_
  have hcle := cat_le ss hss
  have hnn : (nocr (cat ss)).length ≤ 100 := by
    have h2 : (nocr (cat ss)).length ≤ (cat ss).length := List.length_filter_le _ _
    omega
  have hcl : (clS (nocr (cat ss))).length ≤ 100 := by
    have : (clS (nocr (cat ss))).length = (nocr (cat ss)).length := by simp [clS, Str.length]
    omega
  refine comp_strE (f := fun c => one (zsC c)) (y := clS (nocr (cat ss))) hA.handled hfree hcell hkind hnames hx (by rw [sizeLine_eq]; omega) ?_ hfold
  refine Call_ (nameX_K F X T₀ g_clean ?_ hk hkc)
  refine callWith_k2 (K := Mine.hd.heap_1 w.params) kp_clean (nameX_L F hm1 (nameX_L F hm2 ⟨X.keeps F.keep, wpAny_call ?_⟩ hk hz) hk hy)
  refine clean_in (s := { s with toks := s.toks + 1 }) hss hne hlen hfl hA F D X T₀ hs hf fun t h₁ tk₁ l₁ F₁ D₁ hf₁ keep₁ => ?_
  refine ⟨⟨_, rfl⟩, ?_, ?_⟩
  · intro C ch u s₃ m₃ E' hn hm hk₃
    have XS : (Mine.hd.heap_1 w.params).In h₁ := X.keeps F₁.keep
    have TS : TopRead p loose mg mb h₁ := T₀.keeps F₁.keep
    refine wpAny_IfExp (wpAny_isTrue_Compare1 (ldC hn hm (List_ (wpAny_items_cons (wpAny_Constant_str (wpAny_items_cons (wpAny_Constant_str (wpAny_items_nil ?_)))))) (hkk C) (hx1 C)))
    refine wpAny_newObj_type ?_ (by show 2 ≤ sizeLine; decide)
    refine in_list_strs ⟨_, Heap.get?_push_size _ rfl, rfl, _, rfl⟩ (.cons _ _ (.cons _ _ .nil)) (wpAny_truthy_bool ?_)
    have e : ([(Str.ofString "Z" : Str), Str.ofString "S"]).any (· == one ch) = (ch == 90 || ch == 83) := by
      rw [show (Str.ofString "Z" : Str) = one 90 from rfl, show (Str.ofString "S" : Str) = one 83 from rfl]
      simp only [List.any_cons, List.any_nil, one_beq, Bool.or_false]
      simp only [Bool.beq_comm, BEq.comm]
    rw [e]
    refine bool_if (fun hq => ?_) (fun hq => ?_)
    · have hk₄ : ∀ (o : Obj) b o', h₁.get? b = some o' → (s₃.heap.push o).get? b = some o' := fun o b o' e => Heap.get?_push_of_some _ (hk₃ b o' e)
      have hn₄ : ∀ o : Obj, (s₃.heap.push o).Ns C m₃ := fun o => hn.at' fun o' e => Heap.get?_push_of_some _ e
      refine Call_ ?_
      refine name_BC (x := "chr") (K := Mine.hd.heap_1 w.params) XS TS (hk₄ _) g_chr (by boot_fast) (by decide) ?_ (hkk C) (hx2 C) rfl rfl
      refine callWith_b1 ?_
      refine wpAny_BinOp (Call_ ?_)
      refine name_BC (x := "ord") (K := Mine.hd.heap_1 w.params) XS TS (hk₄ _) g_ord (by boot_fast) (by decide) ?_ (hkk C) (hx3 C) rfl rfl
      refine callWith_b1 (ldC (hn₄ _) hm (P.ord_of_char ?_) (hkk C) (hx1 C))
      refine wpAny_Constant_int (PyProof.Rows.add_int ?_)
      have hch : ch = 90 ∨ ch = 83 := by
        rcases Bool.or_eq_true_iff.mp hq with q | q
        · exact .inl (by simpa using q)
        · exact .inr (by simpa using q)
      have e3 : (⟨#[((ch : Int) + 32).toNat]⟩ : Str) = one (zsC ch) := by
        have e : zsC ch = ch + 32 := if_pos hq
        have e2 : ((ch : Int) + 32).toNat = ch + 32 := by omega
        rw [e, e2]; rfl
      refine P.chr_of_int ?_ ?_
      · simp only [Bool.or_eq_false_iff, decide_eq_false_iff_not]; omega
      refine ⟨⟨_, congrArg (fun z => Value.str z _) e3⟩, ?_⟩
      exact ⟨_, _, rfl, fun _ _ e => Heap.get?_push_of_some _ e⟩
    · have hn₄ : ∀ o : Obj, (s₃.heap.push o).Ns C m₃ := fun o => hn.at' fun o' e => Heap.get?_push_of_some _ e
      refine ldC (hn₄ _) hm ⟨⟨u, ?_⟩, _, _, rfl, fun _ _ e => Heap.get?_push_of_some _ e⟩ (hkk C) (hx1 C)
      have e : zsC ch = ch := if_neg (by rw [hq]; exact Bool.false_ne_true)
      rw [e]
  · intro D' ts h' tk hnew hl ht hk'
    refine SC.join (texts := ts.map (·.1)) hl rfl ?_ fun t' k => ?_
    · rw [ht]
      have e : (clS (nocr (cat ss))).cps.toList.length = (clS (nocr (cat ss))).length := by simp [Str.length]
      have q := StrLaws.joinFits (sep := Str.ofString "") (texts := (clS (nocr (cat ss))).cps.toList.map fun c => one (zsC c)) (B := 1) (fun z hz => by
        obtain ⟨c, _, rfl⟩ := List.mem_map.mp hz; exact Nat.le_refl _) (by rw [List.length_map, e]; show _ + _ * 0 ≤ _; omega)
      unfold JoinOk
      rw [q]; rfl
    · rw [ht, join_ones']
      exact h _ _ _ _ (F₁.keeps hk') ⟨D₁.N.grown hk', D₁.nd⟩ hf₁ keep₁
end
end
end Mine
end
-- part NK
section
open PySem PySem.W PySem.Calls PyProof.Rows
set_option Elab.async false
set_option maxRecDepth 100000
namespace Mine
noncomputable section
/-- a text that the law writes, and what the reader makes of it -/
inductive Pc : List Nat → List Nat → Prop
  | nil : Pc [] []
  | c {k : Nat} {r n : List Nat} (h : k ≠ 13) (ho : okC k) (t : Pc r n) : Pc (k :: r) (k :: n)
  | nl {r n : List Nat} (t : Pc r n) : Pc (13 :: 10 :: r) (10 :: n)
theorem Pc.append {a b x y : List Nat} (h : Pc a b) (h' : Pc x y) : Pc (a ++ x) (b ++ y) := by
  induction h with
  | nil => exact h'
  | c h ho _ ih => exact .c h ho ih
  | nl _ ih => exact .nl ih
theorem Pc.norm {a b : List Nat} (h : Pc a b) : nocr a = b := by
  induction h with
  | nil => rfl
  | c h ho _ ih => simp [nocr, h] at ih ⊢; exact ih
  | nl _ ih => simp [nocr] at ih ⊢; exact ih
theorem Pc.ok {a b : List Nat} (h : Pc a b) : ∀ c ∈ a, okC c := by
  induction h with
  | nil => intro c hc; cases hc
  | c h ho _ ih => exact List.forall_mem_cons.mpr ⟨ho, ih⟩
  | nl _ ih => exact List.forall_mem_cons.mpr ⟨.inr (.inr (.inr (.inr (.inl rfl)))), List.forall_mem_cons.mpr ⟨.inr (.inr (.inl rfl)), ih⟩⟩
theorem Pc.crlf {a b : List Nat} (h : Pc a b) : Crlf a := by
  induction h with
  | nil => intro k h; simp at h
  | c h ho _ ih =>
    intro k hk
    cases k with
    | zero => simp at hk; exact absurd hk h
    | succ k => simpa using ih k (by simpa using hk)
  | nl _ ih =>
    intro k hk
    cases k with
    | zero => simp
    | succ k =>
      cases k with
      | zero => simp at hk
      | succ k => simpa using ih k (by simpa using hk)
theorem Pc.last {a b : List Nat} (h : Pc a b) : ∀ c, a.getLast? = some c → c ≠ 13 := by
  induction h with
  | nil => intro c h; simp at h
  | @c k r n h ho t ih =>
    intro c hc
    cases r with
    | nil => simp at hc; rw [← hc]; exact h
    | cons x r => exact ih c (by simpa [List.getLast?_cons_cons] using hc)
  | @nl r n t ih =>
    intro c hc
    cases r with
    | nil => simp at hc; rw [← hc]; decide
    | cons x r => exact ih c (by simpa [List.getLast?_cons_cons] using hc)
/-- a text of the law's, its length bounded -/
structure PcS (x : Str) (n : List Nat) (k : Nat) : Prop where
  p : Pc x.cps.toList n
  l : x.length ≤ k
theorem PcS.add {x y : Str} {n n' : List Nat} {k k' : Nat} (h : PcS x n k) (h' : PcS y n' k') : PcS (x ++ y) (n ++ n') (k + k') :=
  ⟨by rw [Str.cps_append, Array.toList_append]; exact h.p.append h'.p, by rw [Str.length_append]; exact Nat.add_le_add h.l h'.l⟩
theorem PcS.xok {x : Str} {n : List Nat} {k : Nat} (h : PcS x n k) (hk : k ≤ 9000) (h2 : 2 ≤ x.length) : XOk x := by
  have hl : x.cps.toList.length = x.length := by simp [Str.length]
  refine ⟨Nat.le_trans h.l hk, h2, h.p.ok, ?_, h.p.crlf⟩
  have hlt : x.length - 1 < x.cps.toList.length := by omega
  refine ⟨x.cps.toList[x.length - 1], ?_, ?_⟩
  · rw [← Array.getElem?_toList]
    simp only [List.getElem?_eq_getElem hlt]
  · refine h.p.last _ ?_
    rw [List.getLast?_eq_getElem?, hl]
    simp only [List.getElem?_eq_getElem hlt]
theorem PcS.norm {x : Str} {n : List Nat} {k : Nat} (h : PcS x n k) : (normS x).cps.toList = n := h.p.norm
theorem ok_of {c : Nat} (h : (c == 0 || c == 9 || c == 10 || c == 12 || c == 13 || (decide (32 ≤ c) && decide (c ≤ 126)) || c == 233 || c == 119987 || c == 128512) = true) : okC c := by
  simpa [okC, or_assoc] using h
theorem pc_one {k : Nat} (h : k ≠ 13) (ho : okC k) : PcS (one k) [k] 1 := ⟨.c h ho .nil, Nat.le_refl _⟩
theorem pc_crlf : PcS crlf [10] 2 := ⟨.nl .nil, Nat.le_refl _⟩
theorem pc_empty : PcS (Str.ofString "") [] 0 := ⟨.nil, Nat.le_refl _⟩
/-- a gap, as the reader sees it -/
theorem gap_pc {g : Str} (h : g ∈ GAPS) : ∃ n, PcS g n 4 ∧ IsGap n ∧ ∀ x, gapF n x = if g = Str.ofString "" then [x] else [] := by
  simp only [GAPS, List.mem_cons, List.not_mem_nil, or_false] at h
  rcases h with rfl | rfl | rfl | rfl | rfl
  · exact ⟨[32], ⟨.c (by decide) (ok_of (by decide)) .nil, by decide⟩, by simp [IsGap, isSp], fun x => by rw [if_neg (by decide)]; rfl⟩
  · exact ⟨[], ⟨.nil, by decide⟩, by simp [IsGap], fun x => by rw [if_pos rfl]; rfl⟩
  · exact ⟨[10], ⟨.c (by decide) (ok_of (by decide)) .nil, by decide⟩, by simp [IsGap, isSp], fun x => by rw [if_neg (by decide)]; rfl⟩
  · exact ⟨[9, 32, 10], ⟨.c (by decide) (ok_of (by decide)) (.c (by decide) (ok_of (by decide)) (.nl .nil)), by decide⟩, by simp [IsGap, isSp], fun x => by rw [if_neg (by decide)]; rfl⟩
  · exact ⟨[12], ⟨.c (by decide) (ok_of (by decide)) .nil, by decide⟩, by simp [IsGap, isSp], fun x => by rw [if_neg (by decide)]; rfl⟩
theorem junk_pc {j : Str} (h : j ∈ JUNKS) : ∃ n, PcS j n 4 ∧ JunkOk n ∧ (∀ x, jf n x = if j = Str.ofString "" then [] else [x]) ∧ (n = [] ↔ j = Str.ofString "") := by
  simp only [JUNKS, List.mem_cons, List.not_mem_nil, or_false] at h
  rcases h with rfl | rfl | rfl | rfl | rfl
  · exact ⟨[], ⟨.nil, by decide⟩, ⟨by simp, by simp⟩, fun x => by rw [if_pos rfl]; rfl, by simp⟩
  · exact ⟨[120], ⟨.c (by decide) (ok_of (by decide)) .nil, by decide⟩, ⟨by simp [junkC, isSp], by simp⟩, fun x => by rw [if_neg (by decide)]; rfl, by simp; decide⟩
  · exact ⟨[], ⟨.nil, by decide⟩, ⟨by simp, by simp⟩, fun x => by rw [if_pos rfl]; rfl, by simp⟩
  · exact ⟨[91, 97, 93], ⟨.c (by decide) (ok_of (by decide)) (.c (by decide) (ok_of (by decide)) (.c (by decide) (ok_of (by decide)) .nil)), by decide⟩, ⟨by simp [junkC, isSp], by simp⟩, fun x => by rw [if_neg (by decide)]; rfl, by simp; decide⟩
  · exact ⟨[61, 0], ⟨.c (by decide) (ok_of (by decide)) (.c (by decide) (ok_of (by decide)) .nil), by decide⟩, ⟨by simp [junkC, isSp], by simp⟩, fun x => by rw [if_neg (by decide)]; rfl, by simp; decide⟩
/-- what stands behind, as the reader sees it -/
theorem behind_pc {b : Str} (h : b ∈ BEHINDS) : ∃ n, PcS b n 4 ∧ (if b = crlf then one 10 else b) = ⟨n.toArray⟩ := by
  simp only [BEHINDS, List.mem_cons, List.not_mem_nil, or_false] at h
  rcases h with rfl | rfl | rfl | rfl | rfl | rfl
  · exact ⟨[], ⟨.nil, by decide⟩, by decide⟩
  · exact ⟨[97, 62], ⟨.c (by decide) (ok_of (by decide)) (.c (by decide) (ok_of (by decide)) .nil), by decide⟩, by decide⟩
  · exact ⟨[62], ⟨.c (by decide) (ok_of (by decide)) .nil, by decide⟩, by decide⟩
  · exact ⟨[60, 33, 45, 45], ⟨.c (by decide) (ok_of (by decide)) (.c (by decide) (ok_of (by decide)) (.c (by decide) (ok_of (by decide)) (.c (by decide) (ok_of (by decide)) .nil))), by decide⟩, by decide⟩
  · exact ⟨[10], ⟨.nl .nil, by decide⟩, by decide⟩
  · exact ⟨[0], ⟨.c (by decide) (ok_of (by decide)) .nil, by decide⟩, by decide⟩
theorem szd_pc : ∀ {u v : List Nat}, Szd u v → (∀ c ∈ u, 97 ≤ c ∧ c ≤ 122) → Pc v v
  | _, _, .nil, _ => .nil
  | _, _, .cons h r, hu => by
    have h1 := hu _ (.head _)
    refine .c (by rcases h with rfl | h <;> omega) (.inr (.inr (.inr (.inr (.inr (.inl ?_)))))) (szd_pc r fun c hc => hu c (.tail _ hc))
    rcases h with rfl | h <;> omega
theorem szd_doctype {v : List Nat} (h : Szd [100, 111, 99, 116, 121, 112, 101] v) : ∃ x0 x1 x2 x3 x4 x5 x6, v = [x0, x1, x2, x3, x4, x5, x6] ∧ (x0 = 100 ∨ x0 = 68) ∧ (x1 = 111 ∨ x1 = 79) ∧ (x2 = 99 ∨ x2 = 67) ∧ (x3 = 116 ∨ x3 = 84) ∧ (x4 = 121 ∨ x4 = 89) ∧ (x5 = 112 ∨ x5 = 80) ∧ (x6 = 101 ∨ x6 = 69) := by
  cases h with | cons h0 h => cases h with | cons h1 h => cases h with | cons h2 h => cases h with | cons h3 h => cases h with | cons h4 h => cases h with | cons h5 h => cases h with | cons h6 h =>
  cases h
  exact ⟨_, _, _, _, _, _, _, rfl, by omega, by omega, by omega, by omega, by omega, by omega, by omega⟩
theorem szd_pub {v : List Nat} (h : Szd [112, 117, 98, 108, 105, 99] v) : IsPub v := by
  cases h with | cons h0 h => cases h with | cons h1 h => cases h with | cons h2 h => cases h with | cons h3 h => cases h with | cons h4 h => cases h with | cons h5 h =>
  cases h
  exact ⟨_, _, _, _, _, _, rfl, by omega, by omega, by omega, by omega, by omega, by omega⟩
theorem szd_sys {v : List Nat} (h : Szd [115, 121, 115, 116, 101, 109] v) : IsSys v := by
  cases h with | cons h0 h => cases h with | cons h1 h => cases h with | cons h2 h => cases h with | cons h3 h => cases h with | cons h4 h => cases h with | cons h5 h =>
  cases h
  exact ⟨_, _, _, _, _, _, rfl, by omega, by omega, by omega, by omega, by omega, by omega⟩
/-- the signs of a table -/
theorem cat_pc (TX : List Str) (hT : ∀ x ∈ TX, ∃ n, PcS x n 2) : ∀ ss : List Str, (∀ x ∈ ss, x ∈ TX) → Pc (cat ss) (nocr (cat ss))
  | [], _ => .nil
  | c :: l, h => by
    have ih := cat_pc TX hT l fun x hx => h x (.tail _ hx)
    obtain ⟨n, hn⟩ := hT c (h c (.head _))
    have e : cat (c :: l) = c.cps.toList ++ cat l := by simp [cat]
    rw [e, nocr_append, hn.p.norm]
    exact hn.p.append ih
theorem signs_pc : ∀ x ∈ SIGNS, ∃ n, PcS x n 2 := by
  intro x hx
  simp only [SIGNS, List.mem_cons, List.not_mem_nil, or_false] at hx
  rcases hx with rfl | rfl | rfl | rfl | rfl | rfl | rfl | rfl | rfl | rfl | rfl | rfl | rfl
  case inr.inr.inr.inl => exact ⟨_, pc_crlf⟩
  all_goals exact ⟨_, .c (by decide) (ok_of (by decide)) .nil, by decide⟩
theorem names_pc : ∀ x ∈ NAMES, ∃ n, PcS x n 2 := by
  intro x hx
  simp only [NAMES, List.mem_cons, List.not_mem_nil, or_false] at hx
  rcases hx with rfl | rfl | rfl | rfl | rfl | rfl | rfl | rfl | rfl | rfl
  all_goals exact ⟨_, .c (by decide) (ok_of (by decide)) .nil, by decide⟩
theorem cat_mem {P : Nat → Prop} : ∀ ss : List Str, (∀ x ∈ ss, ∀ c ∈ nocr x.cps.toList, P c) → ∀ c ∈ nocr (cat ss), P c
  | [], _, c, hc => by cases hc
  | x :: l, h, c, hc => by
    have e : cat (x :: l) = x.cps.toList ++ cat l := by simp [cat]
    rw [e, nocr_append] at hc
    rcases List.mem_append.mp hc with q | q
    · exact h x (.head _) c q
    · exact cat_mem l (fun x hx => h x (.tail _ hx)) c q
theorem names_c {ss : List Str} (h : ∀ x ∈ ss, x ∈ NAMES) : ∀ c ∈ nocr (cat ss), isSp c = false ∧ c ≠ 62 ∧ zsC (clC c) = lowC (clC c) := by
  refine cat_mem ss fun x hx => ?_
  have hx := h x hx
  simp only [NAMES, List.mem_cons, List.not_mem_nil, or_false] at hx
  rcases hx with rfl | rfl | rfl | rfl | rfl | rfl | rfl | rfl | rfl | rfl
  all_goals
    intro c hc
    have hc' : c ∈ ([_] : List Nat) := hc
    rw [List.mem_singleton.mp hc']
    exact ⟨by decide, by decide, by decide⟩
theorem names_low {ss : List Str} (h : ∀ x ∈ ss, x ∈ NAMES) : (⟨((clS (nocr (cat ss))).cps.toList.map zsC).toArray⟩ : Str) = lowS (clS (nocr (cat ss))) := by
  have e : (clS (nocr (cat ss))).cps.toList = (nocr (cat ss)).map clC := by simp [clS]
  unfold lowS
  rw [e, List.map_map, List.map_map]
  have : (nocr (cat ss)).map (zsC ∘ clC) = (nocr (cat ss)).map (lowC ∘ clC) := List.map_congr_left fun c hc => (names_c h c hc).2.2
  rw [this]
theorem signs_c {ss : List Str} {qt : Nat} (h : ∀ x ∈ ss, x ∈ SIGNS ∧ x ≠ one qt) : ∀ c ∈ nocr (cat ss), (qt = 39 ∨ qt = 34) → c ≠ qt ∧ c ≠ 62 := by
  refine cat_mem ss fun x hx => ?_
  obtain ⟨hx, hn⟩ := h x hx
  simp only [SIGNS, List.mem_cons, List.not_mem_nil, or_false] at hx
  rcases hx with rfl | rfl | rfl | rfl | rfl | rfl | rfl | rfl | rfl | rfl | rfl | rfl | rfl
  all_goals
    intro c hc hq
    have hc' : c ∈ ([_] : List Nat) := hc
    rw [List.mem_singleton.mp hc']
    refine ⟨fun e => ?_, by decide⟩
    first
      | (rcases hq with rfl | rfl <;> exact absurd e (by decide))
      | (subst e; exact hn rfl)
theorem cat_len2 {ss : List Str} (h : ∀ x ∈ ss, SignOk x) : (nocr (cat ss)).length ≤ 2 * ss.length := Nat.le_trans (List.length_filter_le _ _) (cat_le ss h)
theorem idr_ok {qt : Nat} {ss : List Str} (h : IdR qt ss) : IdOk qt (nocr (cat ss)) := by
  refine ⟨h.q, fun y hy => signs_c h.h y hy (by cases h.q <;> simp), ?_⟩
  have := cat_len2 fun x hx => signs_ok x (h.h x hx).1
  have := h.len
  omega
theorem idr_pc {qt : Nat} {ss : List Str} {piece : Str} (h : IdR qt ss) (hp : piece.cps.toList = qt :: (cat ss ++ [qt])) : PcS piece (qt :: (nocr (cat ss) ++ [qt])) 8 := by
  have hq : qt ≠ 13 ∧ okC qt := by
    cases h.q
    · exact ⟨by decide, ok_of (by decide)⟩
    · exact ⟨by decide, ok_of (by decide)⟩
  refine ⟨?_, ?_⟩
  · rw [hp]
    exact .c hq.1 hq.2 ((cat_pc SIGNS signs_pc ss fun x hx => (h.h x hx).1).append (.c hq.1 hq.2 .nil))
  · have e : piece.cps.toList.length = piece.length := by simp [Str.length]
    rw [← e, hp]
    have := cat_le ss fun x hx => signs_ok x (h.h x hx).1
    have := h.len
    simp
    omega
/-- what the law asks for -/
structure DocR (x nm : Str) (pb sy : Option Str) (ok : Bool) (fs : List Str) (bh : Str) : Prop where
  xok : XOk x
  ex : ∃ x0 x1 x2 x3 x4 x5 x6 g cs t bn fl, (normS x).cps.toList = x0 :: x1 :: x2 :: x3 :: x4 :: x5 :: x6 :: (g ++ (cs ++ 32 :: (t ++ bn))) ∧ (x0 = 100 ∨ x0 = 68) ∧ (x1 = 111 ∨ x1 = 79) ∧ (x2 = 99 ∨ x2 = 67) ∧ (x3 = 116 ∨ x3 = 84) ∧ (x4 = 121 ∨ x4 = 89) ∧ (x5 = 112 ∨ x5 = 80) ∧ (x6 = 101 ∨ x6 = 69) ∧
    IsGap g ∧ (∀ c ∈ cs, isSp c = false ∧ c ≠ 62) ∧ cs ≠ [] ∧ cs.length ≤ 100 ∧ Tail t pb sy ok fl ∧ nm = lowS (clS cs) ∧ fs = gapF g (Str.ofString "need-space-after-doctype") ++ nulls cs ++ fl ∧ (if bh = crlf then one 10 else bh) = ⟨bn.toArray⟩
  small : x.length ≤ 200
end
end Mine
end
-- part NL0
section
open PySem PySem.W PySem.Calls PyProof.Rows
set_option Elab.async false
set_option maxRecDepth 100000
namespace Mine
noncomputable section
section
variable {M : Model} {A : Around} {E : Value → Shared → Prop} {s : Shared} {env : Env}
theorem execs_cut {Q : Flow → Shared → Prop} : ∀ (n : Nat) (body : List Stmt) (s : Shared), wpAny M A (execs (body.take n) env) (fun fl s' => match fl with | .next => wpAny M A (execs (body.drop n) env) Q E s' | f => Q f s') E s → wpAny M A (execs body env) Q E s
  | n, body, s, h => fun Γ p hΓ => by
    have key : ∀ (n : Nat) (body : List Stmt) (p : Pos) (s : Shared), Sem.wp M Γ (execs (body.take n) env) (fun fl _ s' => match fl with | .next => wpAny M A (execs (body.drop n) env) Q E s' | f => Q f s') (fun e _ s' => E e s') p s →
        Sem.wp M Γ (execs body env) (fun f _ s' => Q f s') (fun e _ s' => E e s') p s := by
      intro n
      induction n with
      | zero => intro body p s h; exact h Γ p hΓ
      | succ n ih =>
        intro body p s h
        cases body with
        | nil => exact h Γ p hΓ
        | cons x xs =>
          rw [execs_cons, Sem.wp_bind']
          rw [List.take_succ_cons, execs_cons, Sem.wp_bind'] at h
          refine Sem.wp_mono M Γ _ (fun f p' s' h' => ?_) (fun _ _ _ h' => h') _ _ h
          cases f <;> first | exact ih xs p' s' h' | exact h'
    exact key n body p s (h Γ p hΓ)
/-- the first n statements end so that P holds; the others go on from there -/
theorem execs_join {Q : Flow → Shared → Prop} (n : Nat) {body : List Stmt} (P : Shared → Prop) (h1 : wpAny M A (execs (body.take n) env) (fun fl s' => fl = .next ∧ P s') E s) (h2 : ∀ s', P s' → wpAny M A (execs (body.drop n) env) Q E s') :
    wpAny M A (execs body env) Q E s :=
  execs_cut n body s (wpAny_mono h1 (fun fl s' h => by rw [h.1]; exact h2 s' h.2) fun _ _ e => e)
end
end
end Mine
end
-- part NM
section
open PySem PySem.W PySem.Calls PyProof.Rows
set_option Elab.async false
set_option maxRecDepth 100000
namespace Mine
noncomputable section
section
variable {prog : Program} {w : World} {A : Around} {E : Value → Shared → Prop} {s : Shared} {h₀ : Heap} {L a : Addr} {m : Str → Option Value} {l : List (Addr × Obj)}
  {R : Result → Shared → Prop} {p : Program} {loose : List Str} {mg mb : Str → Option Value} {cn : Str} {cs : Scope} {cd : Value} {cl cl₀ : List (Str × Addr)}

theorem fr_ext1 {h h' : Heap} (F : Fr h₀ L h m) (k : Heap.ExtBut h.objs.size h h') : Fr h₀ L h' m := F.keeps fun b o e => k b o (Nat.ne_of_lt (Heap.lt_size e)) e
theorem Ld.ext1 {h h' : Heap} (D : Ld h₀ L h l) (k : Heap.ExtBut h.objs.size h h') : Ld h₀ L h' l := ⟨D.N.grown fun b o e => k b o (Nat.ne_of_lt (Heap.lt_size e)) e, D.nd⟩

/-- x, y = a tuple of two -/
theorem assign2 {x y : Str} {vx vy : Value} {T : Addr} {k : Nat} {p1 p2 p3 : Pos} {Q : Unit → Shared → Prop} (hh : A.handled = none) (F : Fr h₀ L s.heap m) (D : Ld h₀ L s.heap l) (ht : (T, ({ cls := .type "tuple", data := .seq ([vx, vy] : List Value).toArray } : Obj)) ∈ l)
    (h : ∀ h' tk, Fr h₀ L h' (fun z => if z = y then some vy else if z = x then some vx else m z) → Ld h₀ L h' l → Q () { s with heap := h', toks := tk })
    (hk : cs.kind = .function := by rfl) (hx : (envX cn cs L a cd cl).kindOf x = some .local := by rfl) (hy : (envX cn cs L a cd cl).kindOf y = some .local := by rfl) :
    wpAny (model prog w) A (assign (.Tuple [.Name x p1, .Name y p2] k p3) (envX cn cs L a cd cl) (.ref T)) Q E s := by
  refine wpAny_assign_Tuple hh (items := ([vx, vy] : List Value).toArray) ⟨_, D.N.get ht, rfl, _, rfl⟩ rfl rfl fun h₁ he₁ => ?_
  show wpAny _ _ (assignInOrder [assign (.Name x p1) (envX cn cs L a cd cl), assign (.Name y p2) (envX cn cs L a cd cl)] [vx, vy]) _ _ _
  refine assignInOrder_cons (wpAny_assign_Name (stX (s := { s with heap := h₁ }) (fr_ext1 F he₁) (D.ext1 he₁) (fun h₂ tk₂ F₂ D₂ => ?_) hk hx))
  refine assignInOrder_cons (wpAny_assign_Name (stX (s := { s with heap := h₂, toks := tk₂ }) F₂ D₂ (fun h₃ tk₃ F₃ D₃ => ?_) hk hy))
  exact assignInOrder_nil (h _ _ F₃ D₃)
/-- x, y, z, u = a tuple of four -/
theorem assign4 {x y z u : Str} {vx vy vz vu : Value} {T : Addr} {k : Nat} {p1 p2 p3 p4 p5 : Pos} {Q : Unit → Shared → Prop} (hh : A.handled = none) (F : Fr h₀ L s.heap m) (D : Ld h₀ L s.heap l) (ht : (T, ({ cls := .type "tuple", data := .seq ([vx, vy, vz, vu] : List Value).toArray } : Obj)) ∈ l)
    (h : ∀ h' tk, Fr h₀ L h' (fun n => if n = u then some vu else if n = z then some vz else if n = y then some vy else if n = x then some vx else m n) → Ld h₀ L h' l → Q () { s with heap := h', toks := tk })
    (hk : cs.kind = .function := by rfl) (hx : (envX cn cs L a cd cl).kindOf x = some .local := by rfl) (hy : (envX cn cs L a cd cl).kindOf y = some .local := by rfl)
    (hz : (envX cn cs L a cd cl).kindOf z = some .local := by rfl) (hu : (envX cn cs L a cd cl).kindOf u = some .local := by rfl) :
    wpAny (model prog w) A (assign (.Tuple [.Name x p1, .Name y p2, .Name z p3, .Name u p4] k p5) (envX cn cs L a cd cl) (.ref T)) Q E s := by
  refine wpAny_assign_Tuple hh (items := ([vx, vy, vz, vu] : List Value).toArray) ⟨_, D.N.get ht, rfl, _, rfl⟩ rfl rfl fun h₁ he₁ => ?_
  show wpAny _ _ (assignInOrder [assign (.Name x p1) (envX cn cs L a cd cl), assign (.Name y p2) (envX cn cs L a cd cl), assign (.Name z p3) (envX cn cs L a cd cl), assign (.Name u p4) (envX cn cs L a cd cl)] [vx, vy, vz, vu]) _ _ _
  refine assignInOrder_cons (wpAny_assign_Name (stX (s := { s with heap := h₁ }) (fr_ext1 F he₁) (D.ext1 he₁) (fun h₂ tk₂ F₂ D₂ => ?_) hk hx))
  refine assignInOrder_cons (wpAny_assign_Name (stX (s := { s with heap := h₂, toks := tk₂ }) F₂ D₂ (fun h₃ tk₃ F₃ D₃ => ?_) hk hy))
  refine assignInOrder_cons (wpAny_assign_Name (stX (s := { s with heap := h₃, toks := tk₃ }) F₃ D₃ (fun h₄ tk₄ F₄ D₄ => ?_) hk hz))
  refine assignInOrder_cons (wpAny_assign_Name (stX (s := { s with heap := h₄, toks := tk₄ }) F₄ D₄ (fun h₅ tk₅ F₅ D₅ => ?_) hk hu))
  exact assignInOrder_nil (h _ _ F₅ D₅)

/-- x += e, both texts -/
theorem op_addX {x : Str} {y z : Str} {ty : Tok} {e : Expr} {p1 p2 : Pos} {Q : Flow → Shared → Prop} (F : Fr h₀ L s.heap m) (hx : m x = some (.str y ty)) (hsz : y.length + z.length ≤ 10000)
    (he : wpAny (model prog w) A (eval e (envX cn cs L a cd cl)) (fun v s₁ => ∃ t h' tk l', v = .str z t ∧ s₁ = { s with heap := h', toks := tk } ∧ Fr h₀ L h' m ∧ Ld h₀ L h' l' ∧
      ∀ t' h'' tk', Fr h₀ L h'' (fun n => if n = x then some (.str (y ++ z) t') else m n) → Ld h₀ L h'' l' → Q .next { s with heap := h'', toks := tk' }) E s)
    (hk : cs.kind = .function := by rfl) (hy : (envX cn cs L a cd cl).kindOf x = some .local := by rfl) :
    wpAny (model prog w) A (exec (.AugAssign (.Name x p1) .Add e p2) (envX cn cs L a cd cl)) Q E s := by
  refine wpAny_AugAssign_Name (wpAny_loadName_local hk hy F.ns hx (wpAny_mono he (fun v s₁ hv => ?_) fun _ _ e => e))
  obtain ⟨t, h', tk, l', rfl, rfl, F', D', q⟩ := hv
  refine SB.iadd (fun t' k => ?_) (by rw [sizeLine_eq]; omega)
  exact stX (s := { s with heap := h', toks := k }) F' D' (fun h'' tk' F'' D'' => q _ _ _ F'' D'') hk hy

set_option maxHeartbeats 1000000 in
/-- piece, y = _law_identifier(tape, faults); text += piece -/
theorem b_ident {y x : Str} {tp fa c : Addr} {oc : Obj} {fs : List Str} {tx : Tok} {k : Nat} {p1 p2 p3 p4 p5 p6 p7 p8 p9 p10 p11 : Pos} {Q : Flow → Shared → Prop} (hA : Room A 3) (F : Fr h₀ L s.heap m) (D : Ld h₀ L s.heap l) (X : (Mine.hd.heap_1 w.params).In h₀) (T₀ : TopRead p loose mg mb h₀)
    (hc : cl.lookup (Str.ofString "tape") = some c) (hm : (c, oc) ∈ l) (hd : oc.data = .cell (some (.ref tp))) (hfm : m "faults" = some (.ref fa)) (htm : m "text" = some (.str x tx)) (ht : Tp l tp) (hf : Fl l fa fs) (hne : fa ≠ tp) (hfl : fs.length ≤ 150) (hxl : x.length ≤ 1000) (ny1 : "text" ≠ y) (ny2 : "piece" ≠ y)
    (h : ∀ qt ss piece t1 t2 h' tk l' mm, IdR qt ss → piece.cps.toList = qt :: (cat ss ++ [qt]) → mm "text" = some (.str (x ++ piece) t1) → mm y = some (.str (clS (nocr (cat ss))) t2) → (∀ z : Str, z ≠ "text" → z ≠ "piece" → z ≠ y → mm z = m z) → Fr h₀ L h' mm → Ld h₀ L h' l' → Tp l' tp →
      Fl l' fa (fs ++ nulls (nocr (cat ss))) → (∀ z ∈ l, z.1 ≠ tp → z.1 ≠ fa → z ∈ l') → Q .next { s with heap := h', toks := tk })
    (hk : cs.kind = .function) (hs : swapsWithSole [.Tuple [.Name "piece" p1, .Name y p2] k p3] (.Call (.Name "_law_identifier" p4) [.Name "tape" p5, .Name "faults" p6] [] p7) p8.line (envX cn cs L a cd cl) = pure false) (hw : swappedStores [.Tuple [.Name "piece" p1, .Name y p2] k p3] (.Call (.Name "_law_identifier" p4) [.Name "tape" p5, .Name "faults" p6] [] p7) (envX cn cs L a cd cl) = pure none)
    (k1 : (envX cn cs L a cd cl).kindOf "piece" = some .local) (k2 : (envX cn cs L a cd cl).kindOf y = some .local) (k3 : (envX cn cs L a cd cl).kindOf "_law_identifier" = some .globalImplicit) (k4 : (envX cn cs L a cd cl).kindOf "tape" = some .cell) (k5 : (envX cn cs L a cd cl).kindOf "faults" = some .local) (k6 : (envX cn cs L a cd cl).kindOf "text" = some .local) :
    wpAny (model prog w) A (execs [.Assign [.Tuple [.Name "piece" p1, .Name y p2] k p3] (.Call (.Name "_law_identifier" p4) [.Name "tape" p5, .Name "faults" p6] [] p7) p8, .AugAssign (.Name "text" p9) .Add (.Name "piece" p10) p11] (envX cn cs L a cd cl)) Q E s := by
  refine wpAny_execs_cons (Assign_Tuple (Call_ (nameX_K F X T₀ g_ident ?_ hk k3)) hs hw)
  refine callWith_k2 (K := Mine.hd.heap_1 w.params) kp_ident (nameX_C D.N hc hm hd (nameX_L F hfm ⟨X.keeps F.keep, wpAny_call ?_⟩ hk k5) hk k4)
  refine ident_in hA F D X T₀ ht hf hne hfl fun b qt ss piece t1 t2 h₁ tk₁ l₁ hid hp F₁ D₁ hb ht₁ hf₁ keep₁ => ?_
  refine assign2 (s := { s with heap := h₁, toks := tk₁ }) hA.handled F₁ D₁ hb (fun h₂ tk₂ F₂ D₂ => ?_) hk k1 k2
  have hpl := (idr_pc hid hp).l
  refine wpAny_execs_cons (op_addX (s := { s with heap := h₂, toks := tk₂ }) F₂ (y := x) (z := piece) (ty := tx) ?e1 (by omega) ?e2 hk k6)
  case e1 => exact (if_neg ny1).trans ((if_neg (by decide)).trans htm)
  refine nameX_L F₂ ((if_neg ny2).trans (if_pos rfl)) ⟨t1, h₂, tk₂, l₁, rfl, rfl, F₂, D₂, fun t' h₃ tk₃ F₃ D₃ => ?_⟩ hk k1
  refine wpAny_execs_nil ?_
  refine h qt ss piece t' t2 h₃ tk₃ l₁ _ hid hp (if_pos rfl) ((if_neg (Ne.symm ny1)).trans (if_pos rfl)) (fun z z1 z2 z3 => ?_) F₃ D₃ ht₁ hf₁ keep₁
  exact (if_neg z1).trans ((if_neg z3).trans (if_neg z2))

/-- gap = _law_GAPS()[n // d % 5] -/
theorem a_gap {n d : Int} {tn : Tok} {k1 k2 : Nat} {p1 p2 p3 p4 p5 p6 p7 p8 p9 p10 : Pos} {Q : Flow → Shared → Prop} (hA : Room A 1) (F : Fr h₀ L s.heap m) (D : Ld h₀ L s.heap l) (X : (Mine.hd.heap_1 w.params).In h₀) (T₀ : TopRead p loose mg mb h₀)
    (hn : m "n" = some (.int n tn)) (hd0 : 0 < d) (hd1 : d < 1000)
    (h : ∀ gx t h' tk l', gx ∈ GAPS → Fr h₀ L h' (fun z => if z = "gap" then some (.str gx t) else m z) → Ld h₀ L h' l' → (∀ z ∈ l, z ∈ l') → Q .next { s with heap := h', toks := tk })
    (hk : cs.kind = .function) (q1 : (envX cn cs L a cd cl).kindOf "gap" = some .local) (q2 : (envX cn cs L a cd cl).kindOf "n" = some .local) (q3 : (envX cn cs L a cd cl).kindOf "_law_GAPS" = some .globalImplicit) :
    wpAny (model prog w) A (exec (.Assign [.Name "gap" p1] (.Subscript (.Call (.Name "_law_GAPS" p2) [] [] p3) (.BinOp (.BinOp (.Name "n" p4) .FloorDiv (.Constant (.int d) k1 p5) p6) .Mod (.Constant (.int 5) k2 p7) p8) p9) p10) (envX cn cs L a cd cl)) Q E s := by
  have b5 : 0 ≤ (n.fdiv d).fmod 5 ∧ (n.fdiv d).fmod 5 < 5 := by
    have e : (n.fdiv d).fmod 5 = (n.fdiv d) % 5 := Int.fmod_eq_emod_of_nonneg _ (by omega)
    rw [e]
    exact ⟨Int.emod_nonneg _ (by omega), Int.emod_lt_of_pos _ (by decide)⟩
  refine wpAny_Assign_Name (e_pick (TX := GAPS) (i := (n.fdiv d).fmod 5) hA F X T₀ D (fun A s h₀ L m l R hA F D X T hR => gaps_in hA F D X T hR) g_gaps kp_gaps
      (fun s₁ E' Q' F q => e_dm F hn (by omega) (by omega) (by decide) q hk q2) b5.1 b5.2 (by decide) (fun gx tg h₁ tk₁ l₁ hget F₁ D₁ keep₁ => ?_) hk q3)
  exact stX (s := { s with heap := h₁, toks := tk₁ }) F₁ D₁ (fun h₂ tk₂ F₂ D₂ => h _ _ _ _ _ (List.mem_of_getElem? hget) F₂ D₂ keep₁) hk q1
end
end
end Mine
end
-- part NN
section
open PySem PySem.W PySem.Calls PyProof.Rows
set_option Elab.async false
set_option maxRecDepth 100000
namespace Mine
noncomputable section
noncomputable def wordOf (b : Bool) : Str := if b = true then Str.ofString "system" else Str.ofString "public"
theorem wordOf_ok (b : Bool) : (∀ c ∈ (wordOf b).cps.toList, 97 ≤ c ∧ c ≤ 122) ∧ (wordOf b).length = 6 := by
  cases b
  · exact ⟨by show ∀ c ∈ (Str.ofString "public").cps.toList, _; decide, rfl⟩
  · exact ⟨by show ∀ c ∈ (Str.ofString "system").cps.toList, _; decide, rfl⟩
section
variable {prog : Program} {w : World} {A : Around} {E : Value → Shared → Prop} {s : Shared} {h₀ : Heap} {L a : Addr} {m : Str → Option Value} {l : List (Addr × Obj)}
  {R : Result → Shared → Prop} {p : Program} {loose : List Str} {mg mb : Str → Option Value} {cn : Str} {cs : Scope} {cd : Value} {cl cl₀ : List (Str × Addr)}

theorem fd_b' {n a : Int} (ha : 0 ≤ n) (hn : n < 1000003) (ha' : 0 < a) : 0 ≤ n.fdiv a ∧ n.fdiv a < 1000003 := by
  have e : n.fdiv a = n / a := Int.fdiv_eq_ediv_of_nonneg _ (by omega)
  rw [e]
  have h1 : n / a ≤ n := Int.ediv_le_self _ ha
  exact ⟨Int.ediv_nonneg ha (by omega), by omega⟩

set_option maxHeartbeats 1000000 in
/-- text += ' ' + _law_sized('system' if n % 4 == 3 else 'public', n // 11) + gap -/
theorem op_word {x gx : Str} {n : Int} {tn tx tg : Tok} {k1 k2 k3 k4 k5 k6 : Nat} {p1 p2 p3 p4 p5 p6 p7 p8 p9 p10 p11 p12 p13 p14 p15 p16 p17 p18 p19 : Pos} {Q : Flow → Shared → Prop} (hA : Room A 2) (F : Fr h₀ L s.heap m) (D : Ld h₀ L s.heap l) (X : (Mine.hd.heap_1 w.params).In h₀) (T₀ : TopRead p loose mg mb h₀)
    (hn : m "n" = some (.int n tn)) (n0 : 0 ≤ n) (n1 : n < 1000003) (htm : m "text" = some (.str x tx)) (hgm : m "gap" = some (.str gx tg)) (hxl : x.length ≤ 1000) (hgl : gx.length ≤ 10)
    (h : ∀ xw t h' tk, Szd (wordOf (n.fmod 4 == 3)).cps.toList xw.cps.toList → Fr h₀ L h' (fun z => if z = "text" then some (.str (x ++ (Str.ofString " " ++ xw ++ gx)) t) else m z) → Ld h₀ L h' l → Q .next { s with heap := h', toks := tk })
    (hk : cs.kind = .function) (q1 : (envX cn cs L a cd cl).kindOf "gap" = some .local) (q2 : (envX cn cs L a cd cl).kindOf "n" = some .local) (q3 : (envX cn cs L a cd cl).kindOf "_law_sized" = some .globalImplicit) (q4 : (envX cn cs L a cd cl).kindOf "text" = some .local) :
    wpAny (model prog w) A (exec (.AugAssign (.Name "text" p1) .Add (.BinOp (.BinOp (.Constant (.str " ") k1 p2) .Add (.Call (.Name "_law_sized" p3) [.IfExp (.Compare (.BinOp (.Name "n" p4) .Mod (.Constant (.int 4) k2 p5) p6) [.Eq] [.Constant (.int 3) k3 p7] p8) (.Constant (.str "system") k4 p9) (.Constant (.str "public") k5 p10) p11,
      .BinOp (.Name "n" p12) .FloorDiv (.Constant (.int 11) k6 p13) p14] [] p15) p16) .Add (.Name "gap" p17) p18) p19) (envX cn cs L a cd cl)) Q E s := by
  have b11 := fd_b' (a := 11) n0 n1 (by decide)
  have hw := wordOf_ok (n.fmod 4 == 3)
  refine wpAny_AugAssign_Name (wpAny_loadName_local hk q4 F.ns htm ?_)
  refine wpAny_BinOp (wpAny_BinOp (wpAny_Constant_str (Call_ (nameX_K F X T₀ g_sized ?_ hk q3))))
  refine callWith_k2 (K := Mine.hd.heap_1 w.params) kp_sized (wpAny_mono (Q := fun v s' => ∃ t tk, v = .str (wordOf (n.fmod 4 == 3)) t ∧ s' = { s with toks := tk }) ?_ (fun v s' hv => ?_) (fun _ _ e => e))
  · refine wpAny_IfExp (wpAny_isTrue_Compare1 (e_m F hn (by decide) (fun t tk => wpAny_Constant_int (eq_int (wpAny_truthy_bool ?_))) hk q2))
    refine bool_if (fun hq => ?_) (fun hq => ?_)
    · rw [hq]
      exact wpAny_Constant_str ⟨_, _, rfl, rfl⟩
    · rw [hq]
      exact wpAny_Constant_str ⟨_, _, rfl, rfl⟩
  obtain ⟨t, tk, rfl, rfl⟩ := hv
  refine e_d (s := { s with toks := tk }) F hn (by decide) (by decide) (fun t' tk' => ⟨X.keeps F.keep, wpAny_call ?_⟩) hk q2
  refine sized_in (s := { s with toks := tk' }) hw.1 (by omega) b11.1 b11.2 hA F D X T₀ fun xw tw h₁ tk₁ hsz F₁ D₁ => ?_
  have hxw : xw.length = 6 := by
    have h1 := hsz.len
    have e : xw.cps.toList.length = xw.length := by simp [Str.length]
    have e2 : (wordOf (n.fmod 4 == 3)).cps.toList.length = 6 := by rw [← hw.2]; simp [Str.length]
    omega
  refine SB.add (s := { s with heap := h₁, toks := tk₁ }) (fun t₂ tk₂ => ?_) (by rw [sizeLine_eq, hxw]; decide)
  have l1 : (Str.ofString " " ++ xw).length = 7 := by rw [Str.length_append, hxw]; rfl
  refine nameX_L F₁ hgm ?_ hk q1
  refine SB.add (s := { s with heap := h₁, toks := tk₂ }) (fun t₃ tk₃ => ?_) (by rw [sizeLine_eq, l1]; omega)
  refine SB.iadd (s := { s with heap := h₁, toks := tk₃ }) (fun t₄ tk₄ => ?_) (by rw [sizeLine_eq, Str.length_append, l1]; omega)
  exact stX (s := { s with heap := h₁, toks := tk₄ }) F₁ D₁ (fun h₅ tk₅ F₅ D₅ => h _ _ _ _ hsz F₅ D₅) hk q4

/-- tests of n % 4 -/
theorem t_meq {k : Int} {x : Str} {n : Int} {tn : Tok} {k1 k2 : Nat} {p1 p2 p3 p4 p5 : Pos} {whole : Sem Value} {Q : Bool → Shared → Prop} (F : Fr h₀ L s.heap m) (hn : m x = some (.int n tn)) (h : ∀ tk, Q (n.fmod 4 == k) { s with toks := tk })
    (hk : cs.kind = .function := by rfl) (q2 : (envX cn cs L a cd cl).kindOf x = some .local := by rfl) (hd : (x == ("__debug__" : Str)) = false := by decide) :
    wpAny (model prog w) A (isTrue (.Compare (.BinOp (.Name x p1) .Mod (.Constant (.int 4) k1 p2) p3) [.Eq] [.Constant (.int k) k2 p4] p5) (envX cn cs L a cd cl) whole) Q E s :=
  wpAny_isTrue_Compare1 (e_m F hn (by decide) (fun t tk => wpAny_Constant_int (eq_int (wpAny_truthy_bool (h _)))) hk q2 hd)
theorem t_mgt {k : Int} {x : Str} {n : Int} {tn : Tok} {k1 k2 : Nat} {p1 p2 p3 p4 p5 : Pos} {whole : Sem Value} {Q : Bool → Shared → Prop} (F : Fr h₀ L s.heap m) (hn : m x = some (.int n tn)) (h : ∀ tk, Q (decide (k < n.fmod 4)) { s with toks := tk })
    (hk : cs.kind = .function := by rfl) (q2 : (envX cn cs L a cd cl).kindOf x = some .local := by rfl) (hd : (x == ("__debug__" : Str)) = false := by decide) :
    wpAny (model prog w) A (isTrue (.Compare (.BinOp (.Name x p1) .Mod (.Constant (.int 4) k1 p2) p3) [.Gt] [.Constant (.int k) k2 p4] p5) (envX cn cs L a cd cl) whole) Q E s :=
  wpAny_isTrue_Compare1 (e_m F hn (by decide) (fun t tk => wpAny_Constant_int (PyProof.Rows.gt_int (wpAny_truthy_bool (h _)))) hk q2 hd)
theorem t_mnz {x : Str} {n : Int} {tn : Tok} {k1 : Nat} {p1 p2 p3 : Pos} {Q : Bool → Shared → Prop} (F : Fr h₀ L s.heap m) (hn : m x = some (.int n tn)) (h : ∀ tk, Q (n.fmod 4 != 0) { s with toks := tk })
    (hk : cs.kind = .function := by rfl) (q2 : (envX cn cs L a cd cl).kindOf x = some .local := by rfl) (hd : (x == ("__debug__" : Str)) = false := by decide) :
    wpAny (model prog w) A (isTrue (.BinOp (.Name x p1) .Mod (.Constant (.int 4) k1 p2) p3) (envX cn cs L a cd cl) (eval (.BinOp (.Name x p1) .Mod (.Constant (.int 4) k1 p2) p3) (envX cn cs L a cd cl))) Q E s :=
  isTrue_plain (e_m F hn (by decide) (fun t tk => P.truthy_int (h _)) hk q2 hd)
end
end
end Mine
end
-- part NO
section
open PySem PySem.W PySem.Calls PyProof.Rows
set_option Elab.async false
set_option maxRecDepth 100000
namespace Mine
noncomputable section
noncomputable def tup4 (a b c d : Value) : Obj := { cls := .type "tuple", data := .seq ([a, b, c, d] : List Value).toArray }
/-- the frame of _law_doctype: what stays -/
structure DBase (lb : List (Addr × Obj)) (tp fa : Addr) (n : Int) (nm : Str) (mm : Str → Option Value) (l₁ : List (Addr × Obj)) (fs : List Str) (x : Str) : Prop where
  hn : ∃ t, mm "n" = some (.int n t)
  hfa : mm "faults" = some (.ref fa)
  hri : mm "right" = some (.bool true)
  hte : ∃ t, mm "text" = some (.str x t)
  hna : ∃ t, mm "name" = some (.str nm t)
  htp : Tp l₁ tp
  fl : Fl l₁ fa fs
  keep : ∀ z ∈ lb, z.1 ≠ tp → z ∈ l₁
  nl : ∀ z ∈ lb, z.1 ≠ fa
  nt : fa ≠ tp
/-- the word, a gap, the name -/
noncomputable def Head (x : Str) (fs : List Str) (nm : Str) (W : List Nat) : Prop := ∃ w7 g cs, W = w7 ++ (g ++ cs) ∧ PcS x (w7 ++ (g ++ cs)) 30 ∧ Szd [100, 111, 99, 116, 121, 112, 101] w7 ∧ IsGap g ∧ (∀ c ∈ cs, isSp c = false ∧ c ≠ 62) ∧ cs ≠ [] ∧ cs.length ≤ 6 ∧ nm = lowS (clS cs) ∧
  fs = gapF g (Str.ofString "need-space-after-doctype") ++ nulls cs
theorem fm_b {n a b : Int} (ha : 0 ≤ n) (hb : 0 < b) (ha' : 0 < a) : 0 ≤ (n.fdiv a).fmod b ∧ (n.fdiv a).fmod b < b := by
  have e : (n.fdiv a).fmod b = (n.fdiv a) % b := Int.fmod_eq_emod_of_nonneg _ (by omega)
  rw [e]
  exact ⟨Int.emod_nonneg _ (by omega), Int.emod_lt_of_pos _ hb⟩
theorem fd_b {n a : Int} (ha : 0 ≤ n) (hn : n < 1000003) (ha' : 0 < a) : 0 ≤ n.fdiv a ∧ n.fdiv a < 1000003 := by
  have e : n.fdiv a = n / a := Int.fdiv_eq_ediv_of_nonneg _ (by omega)
  rw [e]
  have h1 : n / a ≤ n := Int.ediv_le_self _ ha
  exact ⟨Int.ediv_nonneg ha (by omega), by omega⟩
theorem f4 {n : Int} : n.fmod 4 = 0 ∨ n.fmod 4 = 1 ∨ n.fmod 4 = 2 ∨ n.fmod 4 = 3 := by
  have e : n.fmod 4 = n % 4 := Int.fmod_eq_emod_of_nonneg _ (by omega)
  rw [e]
  omega
/-- what stands between the name and the last blanks -/
inductive MidT : Bool → List Nat → Option Str → Option Str → List Str → Prop
  | k0 : MidT true [] none none []
  | k1 {kw g2 qt cs} (hk : IsPub kw) (hg2 : IsGap g2) (hi : IdOk qt cs) : MidT false (kw ++ (g2 ++ (qt :: (cs ++ [qt])))) (some (clS cs)) none (gapF g2 oddS ++ nulls cs)
  | k2 {kw g2 qt cs g3 qu ds} (hk : IsPub kw) (hg2 : IsGap g2) (hi : IdOk qt cs) (hg3 : IsGap g3) (hi2 : IdOk qu ds) :
      MidT false (kw ++ (g2 ++ (qt :: (cs ++ [qt]) ++ (g3 ++ (qu :: (ds ++ [qu])))))) (some (clS cs)) (some (clS ds)) (gapF g2 oddS ++ nulls cs ++ gapF g3 oddS ++ nulls ds)
  | k3 {kw g2 qt cs} (hk : IsSys kw) (hg2 : IsGap g2) (hi : IdOk qt cs) : MidT false (kw ++ (g2 ++ (qt :: (cs ++ [qt])))) none (some (clS cs)) (gapF g2 oddS ++ nulls cs)
theorem MidT.tail {z : Bool} {body : List Nat} {pb sy : Option Str} {fl : List Str} {g j : List Nat} (h : MidT z body pb sy fl) (hg : IsGap g) (hj : JunkOk j) :
    Tail (body ++ (g ++ (j ++ [62]))) pb sy (if j = [] then true else sy.isSome) (fl ++ jf j (if z = true then expS else oddS)) := by
  cases h with
  | k0 => simpa using Tail.k0 hg hj
  | k1 hk hg2 hi => simpa using Tail.k1 hk hg2 hi hg hj
  | k2 hk hg2 hi hg3 hi2 => simpa using Tail.k2 hk hg2 hi hg3 hi2 hg hj
  | k3 hk hg2 hi => simpa using Tail.k3 hk hg2 hi hg hj
/-- where the four ways meet -/
noncomputable def MidR (n : Int) (x : Str) (fs : List Str) (nm : Str) (pb sy : Option Str) : Prop :=
  ∃ w7 g cs body fl0, PcS x (w7 ++ (g ++ cs) ++ (if n.fmod 4 = 0 then [] else 32 :: body)) 70 ∧ Szd [100, 111, 99, 116, 121, 112, 101] w7 ∧ IsGap g ∧ (∀ c ∈ cs, isSp c = false ∧ c ≠ 62) ∧ cs ≠ [] ∧ cs.length ≤ 6 ∧ nm = lowS (clS cs) ∧
    fs = gapF g (Str.ofString "need-space-after-doctype") ++ nulls cs ++ fl0 ∧ MidT (n.fmod 4 == 0) body pb sy fl0 ∧ fs.length ≤ 60
theorem pc_space : PcS (Str.ofString " ") [32] 1 := ⟨.c (by decide) (ok_of (by decide)) .nil, by decide⟩
theorem MidR.of0 {n : Int} {x : Str} {fs : List Str} {nm : Str} {W : List Nat} (h : Head x fs nm W) (hr : n.fmod 4 = 0) : MidR n x fs nm none none := by
  obtain ⟨w7, g, cs, _, h1, h2, h3, h4, h5, h6, h7, h8⟩ := h
  have n1 := gapF_len g (Str.ofString "need-space-after-doctype")
  have n2 := nulls_len cs
  refine ⟨w7, g, cs, [], [], ?_, h2, h3, h4, h5, h6, h7, by rw [h8, List.append_nil], by rw [hr]; exact .k0, by rw [h8, List.length_append]; omega⟩
  rw [if_pos hr, List.append_nil]
  exact ⟨h1.p, Nat.le_trans h1.l (by decide)⟩
/-- behind the word and its gap -/
theorem mid_word {x xw gx : Str} {fs : List Str} {nm : Str} {W gN : List Nat} (h : Head x fs nm W) (hw : Pc xw.cps.toList xw.cps.toList) (hwl : xw.length = 6) (hg : PcS gx gN 4) :
    ∃ w7 g cs, PcS (x ++ (Str.ofString " " ++ xw ++ gx)) (w7 ++ (g ++ cs) ++ (32 :: (xw.cps.toList ++ gN))) 41 ∧ Szd [100, 111, 99, 116, 121, 112, 101] w7 ∧ IsGap g ∧ (∀ c ∈ cs, isSp c = false ∧ c ≠ 62) ∧ cs ≠ [] ∧ cs.length ≤ 6 ∧ nm = lowS (clS cs) ∧
      fs = gapF g (Str.ofString "need-space-after-doctype") ++ nulls cs ∧ fs.length ≤ 7 := by
  obtain ⟨w7, g, cs, _, h1, h2, h3, h4, h5, h6, h7, h8⟩ := h
  have n1 := gapF_len g (Str.ofString "need-space-after-doctype")
  have n2 := nulls_len cs
  refine ⟨w7, g, cs, ?_, h2, h3, h4, h5, h6, h7, h8, by rw [h8, List.length_append]; omega⟩
  have hx : PcS xw xw.cps.toList 6 := ⟨hw, Nat.le_of_eq hwl⟩
  have := h1.add ((pc_space.add hx).add hg)
  exact ⟨by simpa [List.append_assoc] using this.p, Nat.le_trans this.l (by decide)⟩
end
end Mine
end
-- part NP
section
open PySem PySem.W PySem.Calls PyProof.Rows
set_option Elab.async false
set_option maxRecDepth 100000
namespace Mine
noncomputable section
theorem idr_nl {qt : Nat} {ss : List Str} (h : IdR qt ss) : (nulls (nocr (cat ss))).length ≤ 6 := by
  have h1 := nulls_len (nocr (cat ss))
  have h2 := cat_len2 fun x hx => signs_ok x (h.h x hx).1
  have h3 := h.len
  omega
/-- the word, one identifier -/
theorem mid_fin1 {n : Int} {x₃ piece nm : Str} {fs fs₃ : List Str} {xw gN : List Nat} {qt : Nat} {ss : List Str} {pb sy : Option Str}
    (hM : ∃ w7 g cs, PcS x₃ (w7 ++ (g ++ cs) ++ (32 :: (xw ++ gN))) 41 ∧ Szd [100, 111, 99, 116, 121, 112, 101] w7 ∧ IsGap g ∧ (∀ c ∈ cs, isSp c = false ∧ c ≠ 62) ∧ cs ≠ [] ∧ cs.length ≤ 6 ∧ nm = lowS (clS cs) ∧
      fs = gapF g (Str.ofString "need-space-after-doctype") ++ nulls cs ∧ fs.length ≤ 7) (hfs : fs ++ gapF gN oddS = fs₃) (hid : IdR qt ss) (hp : piece.cps.toList = qt :: (cat ss ++ [qt])) (hr : n.fmod 4 ≠ 0)
    (mk : MidT false (xw ++ (gN ++ (qt :: (nocr (cat ss) ++ [qt])))) pb sy (gapF gN oddS ++ nulls (nocr (cat ss)))) : MidR n (x₃ ++ piece) (fs₃ ++ nulls (nocr (cat ss))) nm pb sy := by
  obtain ⟨w7, g, cs, h1, h2, h3, h4, h5, h6, h7, h8, h9⟩ := hM
  have n1 := gapF_len gN oddS
  have n2 := idr_nl hid
  refine ⟨w7, g, cs, _, _, ?_, h2, h3, h4, h5, h6, h7, ?_, (by rw [beq_eq_false_iff_ne.mpr hr]; exact mk), ?_⟩
  · rw [if_neg hr]
    have := h1.add (idr_pc hid hp)
    exact ⟨by simpa [List.append_assoc] using this.p, Nat.le_trans this.l (by decide)⟩
  · rw [← hfs, h8]
    simp only [List.append_assoc]
  · rw [← hfs, List.length_append, List.length_append]
    omega
/-- the word, two identifiers -/
theorem mid_fin2 {n : Int} {x₃ piece piece2 gx nm : Str} {fs fs₃ : List Str} {xw gN g3 : List Nat} {qt qu : Nat} {ss ts : List Str} {pb sy : Option Str}
    (hM : ∃ w7 g cs, PcS x₃ (w7 ++ (g ++ cs) ++ (32 :: (xw ++ gN))) 41 ∧ Szd [100, 111, 99, 116, 121, 112, 101] w7 ∧ IsGap g ∧ (∀ c ∈ cs, isSp c = false ∧ c ≠ 62) ∧ cs ≠ [] ∧ cs.length ≤ 6 ∧ nm = lowS (clS cs) ∧
      fs = gapF g (Str.ofString "need-space-after-doctype") ++ nulls cs ∧ fs.length ≤ 7) (hfs : fs ++ gapF gN oddS = fs₃) (hid : IdR qt ss) (hp : piece.cps.toList = qt :: (cat ss ++ [qt])) (hg3 : PcS gx g3 4) (hid2 : IdR qu ts) (hp2 : piece2.cps.toList = qu :: (cat ts ++ [qu])) (hr : n.fmod 4 ≠ 0)
    (mk : MidT false (xw ++ (gN ++ (qt :: (nocr (cat ss) ++ [qt]) ++ (g3 ++ (qu :: (nocr (cat ts) ++ [qu])))))) pb sy (gapF gN oddS ++ nulls (nocr (cat ss)) ++ gapF g3 oddS ++ nulls (nocr (cat ts)))) :
    MidR n (x₃ ++ piece ++ gx ++ piece2) (fs₃ ++ nulls (nocr (cat ss)) ++ gapF g3 oddS ++ nulls (nocr (cat ts))) nm pb sy := by
  obtain ⟨w7, g, cs, h1, h2, h3, h4, h5, h6, h7, h8, h9⟩ := hM
  have n1 := gapF_len gN oddS
  have n3 := gapF_len g3 oddS
  have n2 := idr_nl hid
  have n4 := idr_nl hid2
  refine ⟨w7, g, cs, _, _, ?_, h2, h3, h4, h5, h6, h7, ?_, (by rw [beq_eq_false_iff_ne.mpr hr]; exact mk), ?_⟩
  · rw [if_neg hr]
    have := ((h1.add (idr_pc hid hp)).add hg3).add (idr_pc hid2 hp2)
    exact ⟨by simpa [List.append_assoc] using this.p, Nat.le_trans this.l (by decide)⟩
  · rw [← hfs, h8]
    simp only [List.append_assoc]
  · rw [← hfs]
    simp only [List.length_append]
    omega
end
end Mine
end
-- part NQ
section
open PySem PySem.W PySem.Calls PyProof.Rows
set_option Elab.async false
set_option maxRecDepth 100000
namespace Mine
noncomputable section
noncomputable def spOf (b : Bool) : Str := if b = true then Str.ofString " " else Str.ofString ""
theorem spOf_pc (b : Bool) : PcS (spOf b) (if b = true then [32] else []) 1 := by
  cases b
  · exact ⟨.nil, by decide⟩
  · exact pc_space
theorem doc_of {n : Int} {x nm gx jx bx : Str} {fs : List Str} {pb sy : Option Str} {gN : List Nat} (h : MidR n x fs nm pb sy) (hg : PcS gx gN 4) (hgg : IsGap gN) (hj : jx ∈ JUNKS) (hb : bx ∈ BEHINDS) :
    DocR (x ++ (spOf (n.fmod 4 == 0) ++ gx ++ jx) ++ Str.ofString ">" ++ bx) nm pb sy (if jx = Str.ofString "" then true else sy.isSome) (fs ++ if jx = Str.ofString "" then [] else [if (n.fmod 4 == 0) = true then expS else oddS]) bx := by
  obtain ⟨w7, g, cs, body, fl0, h1, h2, h3, h4, h5, h6, h7, h8, h9, h10⟩ := h
  obtain ⟨jN, j1, j2, j3, j4⟩ := junk_pc hj
  obtain ⟨bN, b1, b2⟩ := behind_pc hb
  have hgt : PcS (Str.ofString ">") [62] 1 := ⟨.c (by decide) (ok_of (by decide)) .nil, by decide⟩
  have htail := h9.tail hgg j2
  obtain ⟨x0, x1, x2, x3, x4, x5, x6, rfl, c0, c1, c2, c3, c4, c5, c6⟩ := szd_doctype h2
  have hN : ∃ K, PcS (x ++ (spOf (n.fmod 4 == 0) ++ gx ++ jx) ++ Str.ofString ">" ++ bx) (x0 :: x1 :: x2 :: x3 :: x4 :: x5 :: x6 :: (g ++ (cs ++ 32 :: ((body ++ (gN ++ (jN ++ [62]))) ++ bN)))) K ∧ K ≤ 200 := by
    have hs := spOf_pc (n.fmod 4 == 0)
    have key := (((h1.add ((hs.add hg).add j1)).add hgt).add b1)
    refine ⟨_, ?_, (by decide : 70 + (1 + 4 + 4) + 1 + 4 ≤ 200)⟩
    by_cases hr : n.fmod 4 = 0
    · have hz : (n.fmod 4 == 0) = true := by rw [hr]; rfl
      rw [hz] at h9
      cases h9
      rw [hz] at key ⊢
      rw [if_pos hr, if_pos rfl] at key
      exact ⟨by simpa [List.append_assoc] using key.p, key.l⟩
    · have hz : (n.fmod 4 == 0) = false := beq_eq_false_iff_ne.mpr hr
      rw [hz] at key ⊢
      rw [if_neg hr, if_neg Bool.false_ne_true] at key
      exact ⟨by simpa [List.append_assoc] using key.p, key.l⟩
  obtain ⟨K, hK, hK2⟩ := hN
  refine ⟨hK.xok (by omega) ?_, ⟨x0, x1, x2, x3, x4, x5, x6, g, cs, body ++ (gN ++ (jN ++ [62])), bN, fl0 ++ jf jN (if (n.fmod 4 == 0) = true then expS else oddS), hK.norm, c0, c1, c2, c3, c4, c5, c6, h3, h4, h5, by omega, ?_, h7, ?_, b2⟩, Nat.le_trans hK.l hK2⟩
  · have e : ∀ {a b : List Nat}, Pc a b → b.length ≤ a.length := by
      intro a b h
      induction h with
      | nil => exact Nat.le_refl _
      | c _ _ _ ih => exact Nat.succ_le_succ ih
      | nl _ ih => exact Nat.le_succ_of_le (Nat.succ_le_succ ih)
    have h2' := e hK.p
    have e2 : (x ++ (spOf (n.fmod 4 == 0) ++ gx ++ jx) ++ Str.ofString ">" ++ bx).cps.toList.length = (x ++ (spOf (n.fmod 4 == 0) ++ gx ++ jx) ++ Str.ofString ">" ++ bx).length := by simp [Str.length]
    simp only [List.length_cons] at h2'
    omega
  · by_cases hj0 : jx = Str.ofString ""
    · have := j4.mpr hj0
      rw [if_pos hj0]
      rw [if_pos this] at htail
      exact htail
    · have : jN ≠ [] := fun q => hj0 (j4.mp q)
      rw [if_neg hj0]
      rw [if_neg this] at htail
      exact htail
  · rw [h8, j3]
    simp only [List.append_assoc]
end
end Mine
end
-- part NL
section
open PySem PySem.W PySem.Calls PyProof.Rows
set_option Elab.async false
set_option maxRecDepth 100000
namespace Mine
noncomputable section
inductive DJ1 (s : Shared) (g : Heap) (L' : Addr) (lb : List (Addr × Obj)) (tp : Addr) (s' : Shared) : Prop
  | mk (h : Heap) (tk : Nat) (mm : Str → Option Value) (l₁ : List (Addr × Obj)) (fa : Addr) (n : Int) (nm : Str) (x : Str) (W : List Nat) (fs : List Str) : s' = { s with heap := h, toks := tk } → Fr g L' h mm → Ld g L' h l₁ → DBase lb tp fa n nm mm l₁ fs x → mm "public" = some .none → mm "system" = some .none → 0 ≤ n → n < 1000003 → Head x fs nm W → DJ1 s g L' lb tp s'
inductive DJ2 (s : Shared) (g : Heap) (L' : Addr) (lb : List (Addr × Obj)) (tp fa : Addr) (n : Int) (nm : Str) (s' : Shared) : Prop
  | mk (h : Heap) (tk : Nat) (mm : Str → Option Value) (l₁ : List (Addr × Obj)) (fs : List Str) (x : Str) (pb : Option Str) (sy : Option Str) (vp : Value) (vs : Value) : s' = { s with heap := h, toks := tk } → Fr g L' h mm → Ld g L' h l₁ → DBase lb tp fa n nm mm l₁ fs x → mm "public" = some vp → OptV pb vp → mm "system" = some vs → OptV sy vs → MidR n x fs nm pb sy → DJ2 s g L' lb tp fa n nm s'
abbrev DJ3 (s : Shared) (g : Heap) (L' fa : Addr) (fs : List Str) (jx : Str) (n : Int) (sy : Option Str) (mm₂ : Str → Option Value) (le : List (Addr × Obj)) (fl : Flow) (s' : Shared) : Prop :=
  fl = .next ∧ ∃ h tk l' mm', s' = { s with heap := h, toks := tk } ∧ Fr g L' h mm' ∧ Ld g L' h l' ∧ Fl l' fa (fs ++ if jx = Str.ofString "" then [] else [if (n.fmod 4 == 0) = true then expS else oddS]) ∧ mm' "right" = some (.bool (if jx = Str.ofString "" then true else sy.isSome)) ∧ (∀ z : Str, z ≠ "right" → mm' z = mm₂ z) ∧ (∀ z ∈ le, z.1 ≠ fa → z ∈ l')
section
variable {prog : Program} {w : World} {A : Around} {E : Value → Shared → Prop} {s : Shared} {h₀ : Heap} {L a : Addr} {m : Str → Option Value} {l : List (Addr × Obj)}
  {R : Result → Shared → Prop} {p : Program} {loose : List Str} {mg mb : Str → Option Value} {cn : Str} {cs : Scope} {cd : Value} {cl cl₀ : List (Str × Addr)}

set_option maxHeartbeats 4000000 in
theorem doct_in {tp : Addr} (hA : Room A 4) (F : Fr h₀ L s.heap m) (D : Ld h₀ L s.heap l) (X : (Mine.hd.heap_1 w.params).In h₀) (T₀ : TopRead p loose mg mb h₀) (ht : Tp l tp)
    (hR : ∀ b wt fa x nm bh pb sy ok fs vp vs t1 t2 t3 h' tk l', DocR x nm pb sy ok fs bh → OptV pb vp → OptV sy vs → Fr h₀ L h' m → Ld h₀ L h' l' → (b, tup4 (.str x t1) (.ref wt) (.ref fa) (.str bh t2)) ∈ l' → (wt, tup4 (.str nm t3) vp vs (.bool ok)) ∈ l' → Fl l' fa fs → (∀ z ∈ l, z.1 ≠ tp → z ∈ l') →
      R (.ok (.ret (.ref b))) { s with heap := h', toks := tk }) :
    codeAny (model prog w) A (.call (.ref 820) ⟨[.ref tp], []⟩) R s := by
  refine call_MC (binds := [("tape", .ref tp)]) hA.lt F D.N X T₀ (f := 820) (by k_is) (by k_is) (BindsTo.of_eq rfl) rfl (by decide) (fun g L' h₁ tk₁ cells F₁ N₁ Y X₁ T₁ lt => ?_)
  obtain ⟨ot, rfl, hot⟩ := CellsAre.one (n := "tape") (c := L' + 1) Y
  have hot' : ot.data = .cell (some (.ref tp)) := hot
  have tlt : tp < L' := by
    obtain ⟨vs, k, hm, _⟩ := ht
    exact lt _ hm
  have nt : L' + 1 ≠ tp := fun e => absurd tlt (by rw [← e]; exact Nat.not_lt.mpr (Nat.le_succ _))
  have nd₁ : (([(L' + 1, ot)] ++ l).map (·.1)).Nodup := List.nodup_cons.mpr ⟨fun q => by
    obtain ⟨p, hp, e⟩ := List.mem_map.mp q
    have := lt p hp
    rw [e] at this
    exact absurd this (Nat.not_lt.mpr (Nat.le_succ _)), D.nd⟩
  have D₁ : Ld g L' h₁ ([(L' + 1, ot)] ++ l) := ⟨N₁, nd₁⟩
  have ht₁ : Tp ([(L' + 1, ot)] ++ l) tp := ht.mono fun z hz _ => .tail _ hz
  generalize hlb : [(L' + 1, ot)] ++ l = lb at D₁ ht₁
  have mc₁ : (L' + 1, ot) ∈ lb := by rw [← hlb]; exact .head _
  refine execs_join 10 (DJ1 s g L' lb tp) ?_ ?_
  · refine wpAny_execs_cons (wpAny_Assign_Name (call_k1 (K := Mine.hd.heap_1 w.params) kp_take (fun Q' q => nameX_K F₁ X₁ T₁ g_take q) (nameX_C D₁.N rfl mc₁ hot' ⟨X₁.keeps F₁.keep, wpAny_call ?_⟩)))
    refine take_in (hA.deeper.le (by decide)) F₁ D₁ X₁ T₁ ht₁ fun n tn h₂ tk₂ l₂ n0 n1 F₂ D₂ ht₂ keep₂ => ?_
    refine stX F₂ D₂ fun h₃ tk₃ F₃ D₃ => ?_
    dsimp only
    refine wpAny_execs_cons (wpAny_Assign_Name (List_ (wpAny_items_nil ?_)))
    refine newList_ld (s := { s with heap := h₃, toks := tk₃ }) F₃ D₃ (fun fa h₄ F₄ D₄ => ?_) (by show 0 ≤ sizeLine; decide)
    have nfa : ∀ z ∈ l₂, z.1 ≠ fa := fun z hz => nd_snoc_ne D₄.nd hz
    refine stX F₄ D₄ fun h₅ tk₅ F₅ D₅ => ?_
    dsimp only
    refine wpAny_execs_cons (wpAny_Assign_Name (wpAny_Constant_bool (stX F₅ D₅ fun h₆ tk₆ F₆ D₆ => ?_)))
    dsimp only
    refine wpAny_execs_cons (wpAny_Assign_Name (wpAny_Constant_none (stX F₆ D₆ fun h₇ tk₇ F₇ D₇ => ?_)))
    dsimp only
    refine wpAny_execs_cons (wpAny_Assign_Name (wpAny_Constant_none (stX F₇ D₇ fun h₈ tk₈ F₈ D₈ => ?_)))
    dsimp only
    have b5 := fm_b (a := 4) (b := 5) n0 (by decide) (by decide)
    refine wpAny_execs_cons (wpAny_Assign_Name (e_pick (s := { s with heap := h₈, toks := tk₈ }) (TX := GAPS) (i := (n.fdiv 4).fmod 5) (hA.deeper.le (by decide)) F₈ X₁ T₁ D₈ (fun A s h₀ L m l R hA F D X T hR => gaps_in hA F D X T hR) g_gaps kp_gaps
      (fun s₁ E' Q' F q => e_dm F rfl (by decide) (by decide) (by decide) q) b5.1 b5.2 (by decide) (fun gx tg h₉ tk₉ l₉ hget F₉ D₉ keep₉ => ?_)))
    refine stX (s := { s with heap := h₉, toks := tk₉ }) F₉ D₉ fun h₁₀ tk₁₀ F₁₀ D₁₀ => ?_
    dsimp only
    have hgx : gx ∈ GAPS := List.mem_of_getElem? hget
    obtain ⟨gN, hgp, hgg, hgf⟩ := gap_pc hgx
    have hf₉ : Fl l₉ fa [] := ⟨_, _, keep₉ _ (List.mem_append_right _ (.head _)), .nil⟩
    refine wpAny_execs_cons (op_fault (s := { s with heap := h₁₀, toks := tk₁₀ }) (g := gx) (x := "need-space-after-doctype") (fa := fa) (fs := []) F₁₀ D₁₀ rfl rfl hf₉ (by decide) (fun s₁ E' Q' _ q => wpAny_Constant_str (q _ _)) (fun h₁₁ tk₁₁ l₁₁ F₁₁ D₁₁ hf₁₁ keep₁₁ => ?_))
    dsimp only
    rw [List.nil_append, ← hgf] at hf₁₁
    have b3 := fm_b (a := 20) (b := 3) n0 (by decide) (by decide)
    have hcnt : (((1 + (n.fdiv 20).fmod 3).toNat : Nat) : Int) = 1 + (n.fdiv 20).fmod 3 := by omega
    have nfl : ∀ z ∈ lb, z.1 ≠ tp → z.1 ≠ fa := fun z hz n => nfa z (keep₂ z hz n)
    have ntf : fa ≠ tp := by
      obtain ⟨vs, k, hm, _⟩ := ht₂
      exact fun e => nfa _ hm e.symm
    have keepA : ∀ z ∈ l₂, z.1 ≠ fa → z ∈ l₁₁ := fun z hz n => keep₁₁ z (keep₉ z (List.mem_append_left _ hz)) n
    have keepB : ∀ z ∈ lb, z.1 ≠ tp → z ∈ l₁₁ := fun z hz n => keepA z (keep₂ z hz n) (nfl z hz n)
    have ht₁₁ : Tp l₁₁ tp := ht₂.mono fun z hz e => keepA z hz (nfa z hz)
    have mc₁₁ : (L' + 1, ot) ∈ l₁₁ := keepB _ mc₁ nt
    refine wpAny_execs_cons (comp_take (s := { s with heap := h₁₁, toks := tk₁₁ }) (tp := tp) (TX := NAMES) (la := 767) (c := L' + 1) (oc := ot) (cl := [("tape", L' + 1)]) (cnt := (1 + (n.fdiv 20).fmod 3).toNat) (hA.deeper.le (by decide)) F₁₁ X₁ T₁ D₁₁ (fun _ h => names_is h) g_name rfl (by decide) (by decide) rfl mc₁₁ hot' nt ht₁₁ (by omega) (fun E' Q' q => ?_)
      (fun nb ss h₁₂ tk₁₂ l₁₂ hss hlen F₁₂ D₁₂ hf₁₂ nb₁₂ ht₁₂ keep₁₂ => ?_) (by with_unfolding_all rfl) (by with_unfolding_all rfl) (by decide) rfl (by decide) rfl rfl rfl rfl rfl rfl rfl rfl (fun _ => rfl))
    · refine wpAny_BinOp (wpAny_Constant_int (e_dm F₁₁ rfl (by decide) (by decide) (by decide) fun t tk => ?_))
      refine PyProof.Rows.add_int ?_
      rw [hcnt] at q
      exact q _ _
    have hssO : ∀ x ∈ ss, SignOk x := fun x hx => names_ok x (hss x hx)
    have hcle := cat_le ss hssO
    obtain ⟨nv, nk, nm₁₂, nv₁₂⟩ := id hf₁₂
    have b60 := fd_b (a := 60) n0 n1 (by decide)
    refine wpAny_execs_cons (wpAny_Assign_Name (wpAny_BinOp (wpAny_BinOp (Call_ (nameX_K F₁₂ X₁ T₁ g_sized ?_)))))
    refine callWith_k2 (K := Mine.hd.heap_1 w.params) kp_sized (wpAny_Constant_str (e_d F₁₂ rfl (by decide) (by decide) fun t tk => ⟨X₁.keeps F₁₂.keep, wpAny_call ?_⟩))
    refine sized_in (y := "doctype") (by decide) (by decide) b60.1 b60.2 (hA.deeper.le (by decide)) F₁₂ D₁₂ X₁ T₁ fun xw tw h₁₃ tk₁₃ hsz F₁₃ D₁₃ => ?_
    have hxw : xw.length = 7 := by
      have := hsz.len
      have e : xw.cps.toList.length = xw.length := by simp [Str.length]
      rw [← e, this]; rfl
    have hgl := hgp.l
    refine nameX_L F₁₃ rfl ?_
    refine SB.add (fun t₁₄ tk₁₄ => ?_) (by rw [sizeLine_eq]; omega)
    refine e_join F₁₃ D₁₃ (if_pos rfl) nm₁₂ nv₁₂ (by omega) fun t₁₅ tk₁₅ => ?_
    have ljn : (⟨(cat ss).toArray⟩ : Str).length = (cat ss).length := by simp [Str.length]
    refine SB.add (fun t₁₆ tk₁₆ => ?_) (by rw [sizeLine_eq, Str.length_append]; omega)
    refine stX F₁₃ D₁₃ fun h₁₇ tk₁₇ F₁₇ D₁₇ => ?_
    dsimp only
    have hf₁₂' : Fl l₁₂ fa (gapF gN "need-space-after-doctype") := hf₁₁.mono fun z hz e => keep₁₂ z hz (by rw [e]; exact ntf)
    have nbf : nb ≠ fa := by
      obtain ⟨fv, kf, hm, _⟩ := hf₁₁
      exact fun e => nb₁₂ _ hm e.symm
    have glen := gapF_len gN "need-space-after-doctype"
    refine wpAny_execs_cons (wpAny_Assign_Name (e_name2 (s := { s with heap := h₁₇, toks := tk₁₇ }) hssO nbf (by omega) (by omega) (hA.deeper.le (by decide)) F₁₇ D₁₇ X₁ T₁ rfl rfl hf₁₂ hf₁₂' (fun t₁₈ h₁₈ tk₁₈ l₁₈ F₁₈ D₁₈ hf₁₈ keep₁₈ => ?_)
      (by decide) (by decide) rfl (by decide) rfl rfl rfl rfl rfl (fun _ => rfl) (fun _ => rfl) (fun _ => rfl) (fun _ => rfl) (fun _ => rfl)))
    refine stX F₁₈ D₁₈ fun h₁₉ tk₁₉ F₁₉ D₁₉ => ?_
    dsimp only
    refine wpAny_execs_nil ⟨rfl, ?_⟩
    have keepC : ∀ z ∈ l₂, z.1 ≠ tp → z.1 ≠ fa → z ∈ l₁₈ := fun z hz n1 n2 => keep₁₈ z (keep₁₂ z (keepA z hz n2) n1) n2
    refine ⟨h₁₉, tk₁₉, _, l₁₈, fa, n, lowS (clS (nocr (cat ss))), xw ++ gx ++ ⟨(cat ss).toArray⟩, xw.cps.toList ++ (gN ++ nocr (cat ss)), gapF gN "need-space-after-doctype" ++ nulls (nocr (cat ss)), rfl, F₁₉, D₁₉, ⟨⟨tn, rfl⟩, rfl, rfl, ⟨t₁₆, rfl⟩, ⟨t₁₈, ?_⟩, ?_, hf₁₈, ?_, ?_, ntf⟩, rfl, rfl, n0, n1, ?_⟩
    · rw [names_low hss]
      exact if_pos rfl
    · exact ht₁₂.mono fun z hz e => keep₁₈ z hz (by rw [e]; exact Ne.symm ntf)
    · intro z hz n1
      exact keepC z (keep₂ z hz n1) n1 (nfl z hz n1)
    · intro z hz e
      by_cases q : z.1 = tp
      · exact ntf (e.symm.trans q)
      · exact nfl z hz q e
    · have hc := names_c hss
      have hpc := cat_pc NAMES names_pc ss hss
      refine ⟨xw.cps.toList, gN, nocr (cat ss), rfl, ?_, hsz, hgg, fun c hc' => ⟨(hc c hc').1, (hc c hc').2.1⟩, ?_, ?_, rfl, rfl⟩
      · have h1 : PcS xw xw.cps.toList 7 := ⟨szd_pc hsz (by decide), by omega⟩
        have h2 : PcS ⟨(cat ss).toArray⟩ (nocr (cat ss)) 6 := ⟨by simpa using hpc, by omega⟩
        have h3 := (h1.add hgp).add h2
        rw [List.append_assoc] at h3
        exact ⟨h3.p, Nat.le_trans h3.l (by decide)⟩
      · intro e
        have hpos : 1 ≤ ss.length := by omega
        obtain ⟨x, ss', rfl⟩ := List.exists_cons_of_length_pos (by omega : 0 < ss.length)
        have hx := hss x (.head _)
        have e1 : cat (x :: ss') = x.cps.toList ++ cat ss' := by simp [cat]
        rw [e1, nocr_append] at e
        have e2 := (List.append_eq_nil_iff.mp e).1
        simp only [NAMES, List.mem_cons, List.not_mem_nil, or_false] at hx
        rcases hx with rfl | rfl | rfl | rfl | rfl | rfl | rfl | rfl | rfl | rfl <;> cases e2
      · have := cat_len2 hssO
        have hl2 : ss.length ≤ 3 := by omega
        omega
  · rintro s' ⟨h, tk, mm, l₁, fa, n, nm, x, W, fs, rfl, F₀, D₀, B, hpu, hsy, n0, n1, hd⟩
    obtain ⟨tn, hn⟩ := B.hn
    obtain ⟨tx, hte⟩ := B.hte
    obtain ⟨tnm, hna⟩ := B.hna
    obtain ⟨to, hodd⟩ := g_odd (P := w.params)
    refine execs_join 4 (DJ2 s g L' lb tp fa n nm) ?_ ?_
    · by_cases hr0 : n.fmod 4 = 0
      · refine wpAny_execs_cons (wpAny_If (t_mnz F₀ hn fun tk => ite_f (by rw [hr0]; rfl) ?_))
        refine wpAny_execs_nil ?_
        refine wpAny_execs_cons (wpAny_If (isTrue_or (t_meq (s := { s with heap := h, toks := tk }) F₀ hn fun tk => ite_f (by rw [hr0]; rfl) ?_)))
        refine isTrue_or (t_meq (s := { s with heap := h, toks := tk }) F₀ hn fun tk => ite_f (by rw [hr0]; rfl) (isTrue_or_nil (ite_f rfl ?_)))
        refine wpAny_execs_nil ?_
        refine wpAny_execs_cons (wpAny_If (t_meq (s := { s with heap := h, toks := tk }) F₀ hn fun tk => ite_f (by rw [hr0]; rfl) ?_))
        refine wpAny_execs_nil ?_
        refine wpAny_execs_cons (wpAny_If (t_mgt (s := { s with heap := h, toks := tk }) F₀ hn fun tk => ite_f (by rw [hr0]; rfl) ?_))
        refine wpAny_execs_nil ?_
        refine wpAny_execs_nil ⟨rfl, h, tk, mm, l₁, fs, x, none, none, .none, .none, rfl, F₀, D₀, B, hpu, rfl, hsy, rfl, .of0 hd hr0⟩
      · have hrn : (n.fmod 4 != 0) = true := bne_iff_ne.mpr hr0
        have hxl : x.length ≤ 30 := by
          obtain ⟨w7, g, cs, _, h1, _⟩ := hd
          exact h1.l
        have hfsl : fs.length ≤ 7 := by
          obtain ⟨w7, g, cs, _, h1, _, _, _, _, h6, _, h8⟩ := hd
          have n1 := gapF_len g (Str.ofString "need-space-after-doctype")
          have n2 := nulls_len cs
          rw [h8, List.length_append]
          omega
        refine wpAny_execs_cons (wpAny_If (t_mnz F₀ hn fun tk => ite_t hrn ?_))
        refine wpAny_execs_cons (a_gap (s := { s with heap := h, toks := tk }) (hA.deeper.le (by decide)) F₀ D₀ X₁ T₁ hn (by decide) (by decide) (fun gx tg h₁ tk₁ l₂ hgx F₁ D₁ keep₁ => ?_) rfl rfl rfl rfl)
        dsimp only
        obtain ⟨gN, hgp, hgg, hgf⟩ := gap_pc hgx
        have hgl := hgp.l
        refine wpAny_execs_cons (op_word (s := { s with heap := h₁, toks := tk₁ }) (hA.deeper.le (by decide)) F₁ D₁ X₁ T₁ ((if_neg (by decide)).trans hn) n0 n1 ((if_neg (by decide)).trans hte) (if_pos rfl) (by omega) (by omega) (fun xw tw h₂ tk₂ hsz F₂ D₂ => ?_) rfl rfl rfl rfl rfl)
        dsimp only
        have hf₂ : Fl l₂ fa fs := B.fl.mono fun z hz _ => keep₁ z hz
        refine wpAny_execs_cons (op_fault (s := { s with heap := h₂, toks := tk₂ }) (g := gx) (x := oddS) (fa := fa) (fs := fs) F₂ D₂ ((if_neg (by decide)).trans (if_pos rfl)) ((if_neg (by decide)).trans ((if_neg (by decide)).trans B.hfa)) hf₂ (by omega) (fun s₁ E' Q' F' q => nameX_K F' X₁ T₁ hodd (q _ _)) (fun h₃ tk₃ l₃ F₃ D₃ hf₃ keep₃ => ?_))
        dsimp only
        rw [← hgf] at hf₃
        refine wpAny_execs_nil ?_
        have hw6 := wordOf_ok (n.fmod 4 == 3)
        have hwpc := szd_pc hsz hw6.1
        have hwl : xw.length = 6 := by
          have h1 := hsz.len
          have e : xw.cps.toList.length = xw.length := by simp [Str.length]
          have e2 : (wordOf (n.fmod 4 == 3)).cps.toList.length = 6 := by rw [← hw6.2]; simp [Str.length]
          omega
        have hM := mid_word hd hwpc hwl hgp
        have gl1 := gapF_len gN oddS
        have keepL : ∀ z ∈ l₁, z.1 ≠ fa → z ∈ l₃ := fun z hz n => keep₃ z (keep₁ z hz) n
        have ht₃ : Tp l₃ tp := B.htp.mono fun z hz e => keepL z hz (by rw [e]; exact Ne.symm B.nt)
        have keepB₃ : ∀ z ∈ lb, z.1 ≠ tp → z ∈ l₃ := fun z hz n => keepL z (B.keep z hz n) (B.nl z hz)
        have mc₃ : (L' + 1, ot) ∈ l₃ := keepB₃ _ mc₁ nt
        obtain ⟨mm₃, F₃', hn₃, hfa₃, hri₃, hte₃, hna₃, hpu₃, hsy₃⟩ : ∃ mm₃, Fr g L' h₃ mm₃ ∧ mm₃ "n" = some (.int n tn) ∧ mm₃ "faults" = some (.ref fa) ∧ mm₃ "right" = some (.bool true) ∧ mm₃ "text" = some (.str (x ++ (Str.ofString " " ++ xw ++ gx)) tw) ∧ mm₃ "name" = some (.str nm tnm) ∧ mm₃ "public" = some .none ∧ mm₃ "system" = some .none :=
          ⟨_, F₃, (if_neg (by decide)).trans ((if_neg (by decide)).trans hn), (if_neg (by decide)).trans ((if_neg (by decide)).trans B.hfa), (if_neg (by decide)).trans ((if_neg (by decide)).trans B.hri), if_pos rfl, (if_neg (by decide)).trans ((if_neg (by decide)).trans hna),
            (if_neg (by decide)).trans ((if_neg (by decide)).trans hpu), (if_neg (by decide)).trans ((if_neg (by decide)).trans hsy)⟩
        clear F₃
        generalize hx3 : x ++ (Str.ofString " " ++ xw ++ gx) = x₃ at hte₃ hM
        generalize hfs3 : fs ++ gapF gN oddS = fs₃ at hf₃
        have hx3l : x₃.length ≤ 41 := by
          obtain ⟨_, _, _, h1, _⟩ := hM
          exact h1.l
        have hfs3l : fs₃.length ≤ 8 := by
          rw [← hfs3, List.length_append]
          omega
        rcases f4 (n := n) with hr | hr | hr | hr
        · exact absurd hr hr0
        · have hkw : IsPub xw.cps.toList := szd_pub (by rw [hr] at hsz; exact hsz)
          refine wpAny_execs_cons (wpAny_If (isTrue_or (t_meq (s := { s with heap := h₃, toks := tk₃ }) F₃' hn₃ fun tk => ite_t (by rw [hr]; rfl) ?_)))
          refine ite_t rfl ?_
          refine b_ident (s := { s with heap := h₃, toks := tk }) (y := "public") (c := L' + 1) (oc := ot) (tp := tp) (fa := fa) (hA.deeper.le (by decide)) F₃' D₃ X₁ T₁ rfl mc₃ hot' hfa₃ hte₃ ht₃ hf₃ B.nt (by omega) (by omega) (by decide) (by decide) (fun qt ss piece t1 t2 h₄ tk₄ l₄ mm₄ hid hp e1 e2 e3 F₄ D₄ ht₄ hf₄ keep₄ => ?_) rfl (by rfl) (by rfl) rfl rfl rfl rfl rfl rfl
          dsimp only
          have hn₄ := (e3 "n" (by decide) (by decide) (by decide)).trans hn₃
          refine wpAny_execs_cons (wpAny_If (t_meq (s := { s with heap := h₄, toks := tk₄ }) F₄ hn₄ fun tk => ite_f (by rw [hr]; rfl) ?_))
          refine wpAny_execs_nil ?_
          refine wpAny_execs_cons (wpAny_If (t_mgt (s := { s with heap := h₄, toks := tk }) F₄ hn₄ fun tk => ite_f (by rw [hr]; rfl) ?_))
          refine wpAny_execs_nil ?_
          refine wpAny_execs_nil ⟨rfl, h₄, tk, mm₄, l₄, _, _, some (clS (nocr (cat ss))), none, _, .none, rfl, F₄, D₄, ⟨⟨tn, hn₄⟩, (e3 "faults" (by decide) (by decide) (by decide)).trans hfa₃, (e3 "right" (by decide) (by decide) (by decide)).trans hri₃, ⟨t1, e1⟩, ⟨tnm, (e3 "name" (by decide) (by decide) (by decide)).trans hna₃⟩, ht₄, hf₄, fun z hz n => keep₄ z (keepB₃ z hz n) n (B.nl z hz), B.nl, B.nt⟩,
            e2, ⟨t2, rfl⟩, (e3 "system" (by decide) (by decide) (by decide)).trans hsy₃, rfl, mid_fin1 hM hfs3 hid hp hr0 (.k1 hkw hgg (idr_ok hid))⟩
        · have hkw : IsPub xw.cps.toList := szd_pub (by rw [hr] at hsz; exact hsz)
          refine wpAny_execs_cons (wpAny_If (isTrue_or (t_meq (s := { s with heap := h₃, toks := tk₃ }) F₃' hn₃ fun tk => ite_f (by rw [hr]; rfl) ?_)))
          refine isTrue_or (t_meq (s := { s with heap := h₃, toks := tk }) F₃' hn₃ fun tk => ite_t (by rw [hr]; rfl) ?_)
          refine ite_t rfl ?_
          refine b_ident (s := { s with heap := h₃, toks := tk }) (y := "public") (c := L' + 1) (oc := ot) (tp := tp) (fa := fa) (hA.deeper.le (by decide)) F₃' D₃ X₁ T₁ rfl mc₃ hot' hfa₃ hte₃ ht₃ hf₃ B.nt (by omega) (by omega) (by decide) (by decide) (fun qt ss piece t1 t2 h₄ tk₄ l₄ mm₄ hid hp e1 e2 e3 F₄ D₄ ht₄ hf₄ keep₄ => ?_) rfl (by rfl) (by rfl) rfl rfl rfl rfl rfl rfl
          dsimp only
          have hn₄ := (e3 "n" (by decide) (by decide) (by decide)).trans hn₃
          have hfa₄ := (e3 "faults" (by decide) (by decide) (by decide)).trans hfa₃
          have hpl := (idr_pc hid hp).l
          have hnl := idr_nl hid
          refine wpAny_execs_cons (wpAny_If (t_meq (s := { s with heap := h₄, toks := tk₄ }) F₄ hn₄ fun tk => ite_t (by rw [hr]; rfl) ?_))
          refine wpAny_execs_cons (a_gap (s := { s with heap := h₄, toks := tk }) (hA.deeper.le (by decide)) F₄ D₄ X₁ T₁ hn₄ (by decide) (by decide) (fun gx3 tg3 h₅ tk₅ l₅ hgx3 F₅ D₅ keep₅ => ?_) rfl rfl rfl rfl)
          dsimp only
          obtain ⟨g3, hgp3, hgg3, hgf3⟩ := gap_pc hgx3
          have hgl3 := hgp3.l
          refine wpAny_execs_cons (op_addX (s := { s with heap := h₅, toks := tk₅ }) F₅ (y := x₃ ++ piece) (z := gx3) (ty := t1) ((if_neg (by decide)).trans e1) (by rw [Str.length_append]; omega) ?_ rfl rfl)
          refine nameX_L F₅ (if_pos rfl) ⟨tg3, h₅, tk₅, l₅, rfl, rfl, F₅, D₅, fun t6 h₆ tk₆ F₆ D₆ => ?_⟩
          dsimp only
          have hf₅ : Fl l₅ fa (fs₃ ++ nulls (nocr (cat ss))) := hf₄.mono fun z hz _ => keep₅ z hz
          refine wpAny_execs_cons (op_fault (s := { s with heap := h₆, toks := tk₆ }) (g := gx3) (x := oddS) (fa := fa) (fs := fs₃ ++ nulls (nocr (cat ss))) F₆ D₆ ((if_neg (by decide)).trans (if_pos rfl)) ((if_neg (by decide)).trans ((if_neg (by decide)).trans hfa₄)) hf₅ (by rw [List.length_append]; omega) (fun s₁ E' Q' F' q => nameX_K F' X₁ T₁ hodd (q _ _)) (fun h₇ tk₇ l₇ F₇ D₇ hf₇ keep₇ => ?_))
          dsimp only
          rw [← hgf3] at hf₇
          refine wpAny_execs_nil ?_
          obtain ⟨mm₇, F₇', e7, ht7, hg7⟩ : ∃ mm₇, Fr g L' h₇ mm₇ ∧ (∀ z : Str, z ≠ "text" → z ≠ "gap" → mm₇ z = mm₄ z) ∧ mm₇ "text" = some (.str (x₃ ++ piece ++ gx3) t6) ∧ True :=
            ⟨_, F₇, fun z z1 z2 => (if_neg z1).trans (if_neg z2), if_pos rfl, trivial⟩
          clear F₇
          have hn₇ := (e7 "n" (by decide) (by decide)).trans hn₄
          have hfa₇ := (e7 "faults" (by decide) (by decide)).trans hfa₄
          have keepL₇ : ∀ z ∈ l₄, z.1 ≠ fa → z ∈ l₇ := fun z hz n => keep₇ z (keep₅ z hz) n
          have ht₇ : Tp l₇ tp := ht₄.mono fun z hz e => keepL₇ z hz (by rw [e]; exact Ne.symm B.nt)
          have keepB₇ : ∀ z ∈ lb, z.1 ≠ tp → z ∈ l₇ := fun z hz n => keepL₇ z (keep₄ z (keepB₃ z hz n) n (B.nl z hz)) (B.nl z hz)
          have mc₇ : (L' + 1, ot) ∈ l₇ := keepB₇ _ mc₁ nt
          have gl3 := gapF_len g3 oddS
          refine wpAny_execs_cons (wpAny_If (t_mgt (s := { s with heap := h₇, toks := tk₇ }) F₇' hn₇ fun tk => ite_t (by rw [hr]; rfl) ?_))
          refine b_ident (s := { s with heap := h₇, toks := tk }) (y := "system") (c := L' + 1) (oc := ot) (tp := tp) (fa := fa) (hA.deeper.le (by decide)) F₇' D₇ X₁ T₁ rfl mc₇ hot' hfa₇ ht7 ht₇ hf₇ B.nt (by simp only [List.length_append]; omega) (by simp only [Str.length_append]; omega) (by decide) (by decide) (fun qu ts piece2 t8 t9 h₈ tk₈ l₈ mm₈ hid2 hp2 e8 e9 e10 F₈ D₈ ht₈ hf₈ keep₈ => ?_) rfl (by rfl) (by rfl) rfl rfl rfl rfl rfl rfl
          dsimp only
          refine wpAny_execs_nil ⟨rfl, h₈, tk₈, mm₈, l₈, _, _, some (clS (nocr (cat ss))), some (clS (nocr (cat ts))), _, _, rfl, F₈, D₈, ⟨⟨tn, (e10 "n" (by decide) (by decide) (by decide)).trans hn₇⟩, (e10 "faults" (by decide) (by decide) (by decide)).trans hfa₇, (e10 "right" (by decide) (by decide) (by decide)).trans ((e7 "right" (by decide) (by decide)).trans ((e3 "right" (by decide) (by decide) (by decide)).trans hri₃)), ⟨t8, e8⟩,
            ⟨tnm, (e10 "name" (by decide) (by decide) (by decide)).trans ((e7 "name" (by decide) (by decide)).trans ((e3 "name" (by decide) (by decide) (by decide)).trans hna₃))⟩, ht₈, hf₈, fun z hz n => keep₈ z (keepB₇ z hz n) n (B.nl z hz), B.nl, B.nt⟩,
            (e10 "public" (by decide) (by decide) (by decide)).trans ((e7 "public" (by decide) (by decide)).trans e2), ⟨t2, rfl⟩, e9, ⟨t9, rfl⟩, mid_fin2 hM hfs3 hid hp hgp3 hid2 hp2 hr0 (.k2 hkw hgg (idr_ok hid) hgg3 (idr_ok hid2))⟩
        · have hkw : IsSys xw.cps.toList := szd_sys (by rw [hr] at hsz; exact hsz)
          refine wpAny_execs_cons (wpAny_If (isTrue_or (t_meq (s := { s with heap := h₃, toks := tk₃ }) F₃' hn₃ fun tk => ite_f (by rw [hr]; rfl) ?_)))
          refine isTrue_or (t_meq (s := { s with heap := h₃, toks := tk }) F₃' hn₃ fun tk => ite_f (by rw [hr]; rfl) (isTrue_or_nil (ite_f rfl ?_)))
          refine wpAny_execs_nil ?_
          refine wpAny_execs_cons (wpAny_If (t_meq (s := { s with heap := h₃, toks := tk }) F₃' hn₃ fun tk => ite_f (by rw [hr]; rfl) ?_))
          refine wpAny_execs_nil ?_
          refine wpAny_execs_cons (wpAny_If (t_mgt (s := { s with heap := h₃, toks := tk }) F₃' hn₃ fun tk => ite_t (by rw [hr]; rfl) ?_))
          refine b_ident (s := { s with heap := h₃, toks := tk }) (y := "system") (c := L' + 1) (oc := ot) (tp := tp) (fa := fa) (hA.deeper.le (by decide)) F₃' D₃ X₁ T₁ rfl mc₃ hot' hfa₃ hte₃ ht₃ hf₃ B.nt (by omega) (by omega) (by decide) (by decide) (fun qt ss piece t1 t2 h₄ tk₄ l₄ mm₄ hid hp e1 e2 e3 F₄ D₄ ht₄ hf₄ keep₄ => ?_) rfl (by rfl) (by rfl) rfl rfl rfl rfl rfl rfl
          dsimp only
          refine wpAny_execs_nil ⟨rfl, h₄, tk₄, mm₄, l₄, _, _, none, some (clS (nocr (cat ss))), .none, _, rfl, F₄, D₄, ⟨⟨tn, (e3 "n" (by decide) (by decide) (by decide)).trans hn₃⟩, (e3 "faults" (by decide) (by decide) (by decide)).trans hfa₃, (e3 "right" (by decide) (by decide) (by decide)).trans hri₃, ⟨t1, e1⟩, ⟨tnm, (e3 "name" (by decide) (by decide) (by decide)).trans hna₃⟩, ht₄, hf₄, fun z hz n => keep₄ z (keepB₃ z hz n) n (B.nl z hz), B.nl, B.nt⟩,
            (e3 "public" (by decide) (by decide) (by decide)).trans hpu₃, rfl, e2, ⟨t2, rfl⟩, mid_fin1 hM hfs3 hid hp hr0 (.k3 hkw hgg (idr_ok hid))⟩
    · rintro s' ⟨h, tk, mm, l₁, fs, x, pb, sy, vp, vs, rfl, F₀, D₀, B, hpu, hop, hsy, hos, hM⟩
      obtain ⟨tn, hn⟩ := B.hn
      obtain ⟨tx, hte⟩ := B.hte
      obtain ⟨tnm, hna⟩ := B.hna
      have mc : (L' + 1, ot) ∈ l₁ := B.keep _ mc₁ nt
      have hxl : x.length ≤ 70 := by
        obtain ⟨w7, g, cs, body, fl0, q1, _⟩ := hM
        exact q1.l
      have hfsl : fs.length ≤ 60 := by
        obtain ⟨w7, g, cs, body, fl0, _, _, _, _, _, _, _, _, _, q⟩ := hM
        exact q
      refine wpAny_execs_cons (wpAny_Assign_Name (call_k1 (s := { s with heap := h, toks := tk }) (K := Mine.hd.heap_1 w.params) kp_take (fun Q' q => nameX_K F₀ X₁ T₁ g_take q) (nameX_C D₀.N rfl mc hot' ⟨X₁.keeps F₀.keep, wpAny_call ?_⟩)))
      refine take_in (s := { s with heap := h, toks := tk }) (hA.deeper.le (by decide)) F₀ D₀ X₁ T₁ B.htp fun mv tm ha tka la m0 m1 Fa Da hta keepa => ?_
      refine stX (s := { s with heap := ha, toks := tka }) Fa Da fun hb tkb Fb Db => ?_
      dsimp only
      have b5 : 0 ≤ mv.fmod 5 ∧ mv.fmod 5 < 5 := by
        have e : mv.fmod 5 = mv % 5 := Int.fmod_eq_emod_of_nonneg _ (by omega)
        rw [e]
        exact ⟨Int.emod_nonneg _ (by omega), Int.emod_lt_of_pos _ (by decide)⟩
      refine wpAny_execs_cons (wpAny_Assign_Name (e_pick (s := { s with heap := hb, toks := tkb }) (TX := JUNKS) (i := mv.fmod 5) (hA.deeper.le (by decide)) Fb X₁ T₁ Db (fun A s h₀ L m l R hA F D X T hR => junk_in hA F D X T hR) g_junk kp_junk (fun s₁ E' Q' F q => e_m F (if_pos rfl) (by decide) q) b5.1 b5.2 (by decide) (fun jx tj hc tkc lc hjget Fc Dc keepc => ?_)))
      refine stX (s := { s with heap := hc, toks := tkc }) Fc Dc fun hd' tkd Fd Dd => ?_
      dsimp only
      have hj : jx ∈ JUNKS := List.mem_of_getElem? hjget
      obtain ⟨jN, hjp, _⟩ := junk_pc hj
      have hjl := hjp.l
      obtain ⟨mm₁, Fd', hm₁, hn₁, hte₁, hj₁, e₁⟩ : ∃ mm₁, Fr g L' hd' mm₁ ∧ mm₁ "m" = some (.int mv tm) ∧ mm₁ "n" = some (.int n tn) ∧ mm₁ "text" = some (.str x tx) ∧ mm₁ "junk" = some (.str jx tj) ∧ (∀ z : Str, z ≠ "m" → z ≠ "junk" → mm₁ z = mm z) :=
        ⟨_, Fd, (if_neg (by decide)).trans (if_pos rfl), (if_neg (by decide)).trans ((if_neg (by decide)).trans hn), (if_neg (by decide)).trans ((if_neg (by decide)).trans hte), if_pos rfl, fun z z1 z2 => (if_neg z2).trans (if_neg z1)⟩
      clear Fd
      have bg := fm_b (n := mv) (a := 5) (b := 5) m0 (by decide) (by decide)
      refine wpAny_execs_cons (wpAny_AugAssign_Name (wpAny_loadName_local rfl rfl Fd'.ns hte₁ ?_))
      refine wpAny_BinOp (wpAny_BinOp (wpAny_mono (Q := fun v s' => ∃ t tk, v = .str (spOf (n.fmod 4 == 0)) t ∧ s' = { s with heap := hd', toks := tk }) ?_ (fun v s' hv => ?_) (fun _ _ e => e)))
      · refine wpAny_IfExp (t_meq (s := { s with heap := hd', toks := tkd }) Fd' hn₁ fun tk => ?_)
        refine bool_if (fun hq => ?_) (fun hq => ?_)
        · rw [hq]
          exact wpAny_Constant_str ⟨_, _, rfl, rfl⟩
        · rw [hq]
          exact wpAny_Constant_str ⟨_, _, rfl, rfl⟩
      obtain ⟨tsp, tks, rfl, rfl⟩ := hv
      refine e_pick (s := { s with heap := hd', toks := tks }) (TX := GAPS) (i := (mv.fdiv 5).fmod 5) (hA.deeper.le (by decide)) Fd' X₁ T₁ Dd (fun A s h₀ L m l R hA F D X T hR => gaps_in hA F D X T hR) g_gaps kp_gaps (fun s₁ E' Q' F q => e_dm F hm₁ (by decide) (by decide) (by decide) q) bg.1 bg.2 (by decide) (fun gx tg he tke le hgget Fe De keepe => ?_)
      have hgx : gx ∈ GAPS := List.mem_of_getElem? hgget
      obtain ⟨gN, hgp, hgg, hgf⟩ := gap_pc hgx
      have hgl := hgp.l
      have hsl := (spOf_pc (n.fmod 4 == 0)).l
      refine SB.add (s := { s with heap := he, toks := tke }) (fun t6 tk6 => ?_) (by rw [sizeLine_eq]; omega)
      refine nameX_L (s := { s with heap := he, toks := tk6 }) Fe hj₁ ?_
      refine SB.add (s := { s with heap := he, toks := tk6 }) (fun t7 tk7 => ?_) (by rw [sizeLine_eq, Str.length_append]; omega)
      refine SB.iadd (s := { s with heap := he, toks := tk7 }) (fun t8 tk8 => ?_) (by rw [sizeLine_eq, Str.length_append, Str.length_append]; omega)
      refine stX (s := { s with heap := he, toks := tk8 }) Fe De fun hf tkf Ff Df => ?_
      dsimp only
      obtain ⟨mm₂, Ff', hte₂, e₂⟩ : ∃ mm₂, Fr g L' hf mm₂ ∧ mm₂ "text" = some (.str (x ++ (spOf (n.fmod 4 == 0) ++ gx ++ jx)) t8) ∧ (∀ z : Str, z ≠ "text" → mm₂ z = mm₁ z) := ⟨_, Ff, if_pos rfl, fun z z1 => if_neg z1⟩
      clear Ff
      have keepE : ∀ z ∈ la, z ∈ le := fun z hz => keepe z (keepc z hz)
      have hfle : Fl le fa fs := B.fl.mono fun z hz e => keepE z (keepa z hz (by rw [e]; exact B.nt))
      have hn₂ := (e₂ "n" (by decide)).trans hn₁
      have hj₂ := (e₂ "junk" (by decide)).trans hj₁
      have e₃ : ∀ z : Str, z ≠ "text" → z ≠ "m" → z ≠ "junk" → mm₂ z = mm z := fun z z1 z2 z3 => (e₂ z z1).trans (e₁ z z2 z3)
      have hfa₂ := (e₃ "faults" (by decide) (by decide) (by decide)).trans B.hfa
      have hsy₂ := (e₃ "system" (by decide) (by decide) (by decide)).trans hsy
      have hri₂ := (e₃ "right" (by decide) (by decide) (by decide)).trans B.hri
      refine wpAny_execs_cons (wpAny_mono (Q := DJ3 s g L' fa fs jx n sy mm₂ le) ?_ (fun fl s' hv => ?_) (fun _ _ e => e))
      · refine wpAny_If (wpAny_isTrue_Compare1 (nameX_L (s := { s with heap := hf, toks := tkf }) Ff' hj₂ (wpAny_Constant_str (PyProof.Rows.ne_str (wpAny_truthy_bool ?_)))))
        refine bool_if (fun hq => ?_) (fun hq => ?_)
        · have hj0 : jx ≠ Str.ofString "" := by simpa using hq
          unfold DJ3
          rw [if_neg hj0, if_neg hj0]
          obtain ⟨fv, kf, hm, hv⟩ := hfle
          have hfvl := strs_len hv
          have hfvs : fv.size ≤ 10000 := by rw [← Array.length_toList]; omega
          refine wpAny_execs_cons (op_appX (s := { s with heap := hf, toks := tkf + 1 }) (y := if (n.fmod 4 == 0) = true then expS else oddS) Ff' Df hfa₂ hm hfvs (fun E' Q' q => ?_) (fun t9 hg tkg Fg Dg => ?_))
          · refine wpAny_IfExp (t_mnz (s := { s with heap := hf, toks := tkf + 1 }) Ff' hn₂ fun tk => ?_)
            refine bool_if (fun hq => ?_) (fun hq => ?_)
            · have hz : (n.fmod 4 == 0) = false := by simpa using hq
              rw [hz, if_neg Bool.false_ne_true] at q
              exact nameX_K (s := { s with heap := hf, toks := tk }) Ff' X₁ T₁ hodd (q _ _)
            · have hz : (n.fmod 4 == 0) = true := by simpa using hq
              rw [hz, if_pos rfl] at q
              exact wpAny_Constant_str (q _ _)
          refine wpAny_execs_cons (wpAny_Assign_Name (wpAny_Compare1 (nameX_L Fg hsy₂ (wpAny_Constant_none ?_))))
          refine isNot_none ?_
          have hb : (!(vs == Value.none)) = sy.isSome := by
            cases sy with
            | none => rw [show vs = .none from hos]; rfl
            | some y => obtain ⟨t, rfl⟩ := hos; rfl
          rw [hb]
          refine stX Fg Dg fun hh tkh Fh Dh => ?_
          dsimp only
          refine wpAny_execs_nil ⟨rfl, hh, tkh, _, _, rfl, Fh, Dh, Fl.push hm hv, if_pos rfl, fun z z1 => if_neg z1, fun z hz n => mem_setO hz n⟩
        · have hj0 : jx = Str.ofString "" := by simpa using hq
          unfold DJ3
          rw [if_pos hj0, if_pos hj0, List.append_nil]
          exact wpAny_execs_nil ⟨rfl, hf, _, le, mm₂, rfl, Ff', Df, hfle, hri₂, fun z _ => rfl, fun z hz _ => hz⟩
      obtain ⟨rfl, hi, tki, li, mm₃, rfl, Fi, Di, hfi, hri₃, e₄, keepi⟩ := hv
      dsimp only
      have hte₃ := (e₄ "text" (by decide)).trans hte₂
      have hm₃ := (e₄ "m" (by decide)).trans ((e₂ "m" (by decide)).trans hm₁)
      have hna₃ := (e₄ "name" (by decide)).trans ((e₃ "name" (by decide) (by decide) (by decide)).trans hna)
      have hpu₃ := (e₄ "public" (by decide)).trans ((e₃ "public" (by decide) (by decide) (by decide)).trans hpu)
      have hsy₃ := (e₄ "system" (by decide)).trans hsy₂
      have hfa₃ := (e₄ "faults" (by decide)).trans hfa₂
      have b6 := fm_b (n := mv) (a := 25) (b := 6) m0 (by decide) (by decide)
      refine wpAny_execs_cons (wpAny_Return_some (Tuple_ (wpAny_items_cons (wpAny_BinOp (wpAny_BinOp (nameX_L (s := { s with heap := hi, toks := tki }) Fi hte₃ (wpAny_Constant_str ?_)))))))
      refine SB.add (s := { s with heap := hi, toks := tki + 1 }) (fun t9 tk9 => ?_) (by rw [sizeLine_eq]; simp only [Str.length_append]; show _ + 1 ≤ _; omega)
      refine e_pick (s := { s with heap := hi, toks := tk9 }) (TX := BEHINDS) (i := (mv.fdiv 25).fmod 6) (hA.deeper.le (by decide)) Fi X₁ T₁ Di (fun A s h₀ L m l R hA F D X T hR => behind_in hA F D X T hR) g_behind kp_behind (fun s₁ E' Q' F q => e_dm F hm₃ (by decide) (by decide) (by decide) q) b6.1 b6.2 (by decide) (fun bx tb hk' tkk lk hbget Fk Dk keepk => ?_)
      have hbx : bx ∈ BEHINDS := List.mem_of_getElem? hbget
      obtain ⟨bN, hbp, _⟩ := behind_pc hbx
      have hbl := hbp.l
      refine SB.add (s := { s with heap := hk', toks := tkk }) (fun ta tkA => ?_) (by rw [sizeLine_eq]; simp only [Str.length_append]; show _ + 1 + _ ≤ _; omega)
      refine wpAny_items_cons (Tuple_ (wpAny_items_cons (nameX_L (s := { s with heap := hk', toks := tkA }) Fk hna₃ (wpAny_items_cons (nameX_L Fk hpu₃ (wpAny_items_cons (nameX_L Fk hsy₃ (wpAny_items_cons (nameX_L Fk hri₃ (wpAny_items_nil ?_))))))))))
      refine newTup_ld (s := { s with heap := hk', toks := tkA }) Fk Dk (fun wt hl Fl' Dl => ?_) (by show 4 ≤ sizeLine; decide)
      refine wpAny_items_cons (nameX_L (s := { s with heap := hl, toks := tkA }) Fl' hfa₃ ?_)
      refine wpAny_items_cons ?_
      refine e_pick (s := { s with heap := hl, toks := tkA }) (TX := BEHINDS) (i := (mv.fdiv 25).fmod 6) (hA.deeper.le (by decide)) Fl' X₁ T₁ Dl (fun A s h₀ L m l R hA F D X T hR => behind_in hA F D X T hR) g_behind kp_behind (fun s₁ E' Q' F q => e_dm F hm₃ (by decide) (by decide) (by decide) q) b6.1 b6.2 (by decide) (fun bx' tb' hm' tkm lm hbget' Fm Dm keepm => ?_)
      have hbb : bx' = bx := Option.some.inj (hbget'.symm.trans hbget)
      subst hbb
      refine wpAny_items_nil ?_
      refine newTup_ld (s := { s with heap := hm', toks := tkm }) Fm Dm (fun b hn' Fn Dn => ?_) (by show 4 ≤ sizeLine; decide)
      have keepAll : ∀ z ∈ li, z ∈ lm := fun z hz => keepm z (List.mem_append_left _ (keepk z hz))
      refine leaveK_ Fn Dn.N fun Fo No => hR b wt fa _ nm bx' pb sy _ _ vp vs ta tb' tnm hn' tkm _ (doc_of hM hgp hgg hj hbx) hop hos Fo ⟨No, Dn.nd⟩ (List.mem_append_right _ (.head _)) (List.mem_append_left _ (keepm _ (List.mem_append_right _ (.head _)))) (hfi.mono fun z hz _ => List.mem_append_left _ (keepAll z hz)) fun z hz n => ?_
      have hzlb : z ∈ lb := by rw [← hlb]; exact .tail _ hz
      exact List.mem_append_left _ (keepAll z (keepi z (keepE z (keepa z (B.keep z hzlb n) n)) (B.nl z hzlb)))
end
end
end Mine
end
-- part PA
section
open PySem PySem.W PySem.Calls PyProof.Rows
set_option Elab.async false
set_option maxRecDepth 100000
namespace Mine
noncomputable section
section
variable {prog : Program} {w : World} {A : Around} {s : Shared} {h₀ : Heap} {L : Addr} {m : Str → Option Value} {l : List (Addr × Obj)}

theorem for_st {env : Env} {x : Str} {px : Pos} {body : List Stmt} {R : Result → Shared → Prop} {I : Addr} {oI : Obj} {fp : List Addr} {n : Nat} {P : Nat → Value → Prop} {St : Nat → Heap → Prop}
    (J : Nat → (Str → Option Value) → List (Addr × Obj) → Prop) (IT : LoopIt prog w A I fp n P St s.heap)
    (hx : env.kindOf x = some .local) (hp : (env.scope.kind == .class || (env.scope.kind == .module && env.locals != env.globals)) = false) (hL : env.locals = L)
    (hfp : ∀ b ∈ fp, b = I ∨ (∃ o, h₀.get? b = some o) ∨ (∃ o, ∀ i m l, J i m l → (b, o) ∈ l))
    (F : Fr h₀ L s.heap m) (D : Ld h₀ L s.heap (l ++ [(I, oI)])) (hj : J 0 m l)
    (turn : ∀ i v m₁ l₁ h tk oI, i < n → P i v → St (i + 1) h → J i m₁ l₁ → Fr h₀ L h (fun y => if y = x then some v else m₁ y) → Ld h₀ L h (l₁ ++ [(I, oI)]) →
      wpAny (model prog w) A (execs body env) (ForPost h₀ L I (J (i + 1)) (fun v s' => R (.ok (.ret v)) s') (fun s' => R (.ok .next) s') oI s) (fun _ _ => False) { s with heap := h, toks := tk })
    (done : ∀ m₁ l₁ h tk, J n m₁ l₁ → Fr h₀ L h m₁ → Ld h₀ L h l₁ → R (.ok .next) { s with heap := h, toks := tk }) :
    codeAny (model prog w) A (.forLoop (.Name x px) (.ref I) body [] env) R s := by
  subst hL
  obtain ⟨W, hI, hst⟩ := IT
  have mI : ∀ {l : List (Addr × Obj)} {o : Obj}, (I, o) ∈ l ++ [(I, o)] := by intro l o; simp
  have hIL : I ≠ env.locals := (D.N _ mI).2.1
  have hI0 : h₀.get? I = none := (D.N _ mI).2.2
  have old : ∀ b o, h₀.get? b = some o → b ≠ I := fun b o e q => by rw [q, hI0] at e; cases e
  have hLI : env.locals ∉ [I] := fun q => hIL (List.mem_singleton.mp q).symm
  refine codeAny_forLoop
    (fun k s' => ∃ h' tk m' l' oI i, s' = { s with heap := h', toks := tk } ∧ St i h' ∧ Fr h₀ env.locals h' m' ∧ Ld h₀ env.locals h' (l' ++ [(I, oI)]) ∧ J i m' l' ∧ i ≤ n ∧ k = n + 1 - i) ?_ (n + 1)
    ⟨s.heap, s.toks, m, l, oI, 0, rfl, hst, F, D, hj, Nat.zero_le _, rfl⟩
  rintro k s' ⟨h', tk, m', l', oI', i, rfl, hst', F', D', hJ, hi, rfl⟩
  have next : ∀ h₁ o₁, h₁.get? I = some o₁ → (∀ b o, b ∉ [I] → h'.get? b = some o → h₁.get? b = some o) → Fr h₀ env.locals h₁ m' ∧ Ld h₀ env.locals h₁ (l' ++ [(I, o₁)]) := fun h₁ o₁ e₁ hk₁ => by
    refine ⟨⟨F'.ns.at' fun o e => hk₁ _ o hLI e, fun b o e => hk₁ b o (fun q => old b o e (List.mem_singleton.mp q)) (F'.keep b o e), F'.above⟩, fun p hp => ?_, ?_⟩
    · rcases List.mem_append.mp hp with q | q
      · have nI : p.1 ∉ [I] := fun z => by
          have nd := D'.nd
          rw [List.map_append, List.nodup_append] at nd
          exact nd.2.2 p.1 (List.mem_map_of_mem q) I (by simp) (List.mem_singleton.mp z)
        have z := D'.N p (List.mem_append_left _ q)
        exact ⟨hk₁ _ _ nI z.1, z.2⟩
      · rw [List.mem_singleton.mp q]; exact ⟨e₁, hIL, hI0⟩
    · have nd := D'.nd
      simpa using nd
  have fpL : ∀ i m₁ l₁ h, J i m₁ l₁ → Ld h₀ env.locals h l₁ → env.locals ∉ fp := fun i m₁ l₁ h hj D q => by
    rcases hfp _ q with e | ⟨o, e⟩ | ⟨o, e⟩
    · exact hIL e.symm
    · exact absurd (Heap.lt_size e) (Nat.not_lt.mpr F'.above)
    · exact (D.N _ (e _ _ _ hj)).2.1 rfl
  have left : ∀ {h : Heap} {l₁ : List (Addr × Obj)} {o : Obj}, Ld h₀ env.locals h (l₁ ++ [(I, o)]) → Ld h₀ env.locals h l₁ := fun D => ⟨fun p hp => D.N p (List.mem_append_left _ hp), by
    have nd := D.nd
    rw [List.map_append, List.nodup_append] at nd
    exact nd.1⟩
  by_cases hlt : i < n
  · refine W.item i _ _ _ hlt hst' fun v h₁ tk₁ hP hst₁ hk₁ => ?_
    obtain ⟨o₁, e₁⟩ := hI _ _ hst₁
    obtain ⟨F₁, D₁⟩ := next h₁ o₁ e₁ hk₁
    have hLfp := fpL i m' l' h₁ hJ (left D₁)
    refine wpAny_assign_Name (wpAny_storeName_local hx F₁.ns (fun h₂ hn₂ hs₂ => ?_) hp)
    have F₂ := F₁.set hn₂ hs₂
    have D₂ : Ld h₀ env.locals h₂ (l' ++ [(I, o₁)]) := ⟨D₁.N.set hs₂, D₁.nd⟩
    refine wpAny_mono (turn i v m' l' h₂ _ o₁ hlt hP (W.frame _ _ _ hst₁ fun b hb o e => hs₂.extBut b o (fun q => hLfp (by rw [← show b = env.locals from q]; exact hb)) e) hJ F₂ D₂) (fun f s₃ h₃ => ?_) fun _ _ e => e.elim
    have fin : (∃ h' tk m' l', s₃ = { s with heap := h', toks := tk } ∧ Fr h₀ env.locals h' m' ∧ Ld h₀ env.locals h' (l' ++ [(I, o₁)]) ∧ J (i + 1) m' l') →
        ∃ m, m < n + 1 - i ∧ ∃ h' tk m' l' oI i, s₃ = { s with heap := h', toks := tk } ∧ St i h' ∧ Fr h₀ env.locals h' m' ∧ Ld h₀ env.locals h' (l' ++ [(I, oI)]) ∧ J i m' l' ∧ i ≤ n ∧ m = n + 1 - i := by
      rintro ⟨g₃, tk₃, m₃, l₃, rfl, F₃, D₃, hJ₃⟩
      refine ⟨n + 1 - (i + 1), by omega, g₃, tk₃, m₃, l₃, o₁, i + 1, rfl, ?_, F₃, D₃, hJ₃, hlt, rfl⟩
      refine W.frame _ _ _ hst₁ fun b hb o e => ?_
      rcases hfp b hb with rfl | ⟨o₀, q⟩ | ⟨o₀, q⟩
      · rw [e₁] at e; cases e
        exact (D₃.N _ mI).1
      · have := F₁.keep b o₀ q
        rw [e] at this; cases this
        exact F₃.keep b _ q
      · have := ((left D₁).N _ (q _ _ _ hJ)).1
        rw [e] at this; cases this
        exact ((left D₃).N _ (q _ _ _ hJ₃)).1
    cases f with
    | ret v => exact h₃
    | brk => exact h₃
    | cont => exact fin h₃
    | next => exact fin h₃
  · have hin : i = n := by omega
    subst hin
    refine W.done _ _ _ hst' fun h₁ tk₁ hk₁ => wpAny_execs_nil ?_
    have D₁ : Ld h₀ env.locals h₁ l' := ⟨fun p hp => ?_, (left D').nd⟩
    · exact done m' l' h₁ tk₁ hJ ⟨F'.ns.at' fun o e => hk₁ _ o hLI e, fun b o e => hk₁ b o (fun q => old b o e (List.mem_singleton.mp q)) (F'.keep b o e), F'.above⟩ D₁
    · have z := (left D').N p hp
      refine ⟨hk₁ _ _ (fun z => ?_) z.1, z.2⟩
      have nd := D'.nd
      rw [List.map_append, List.nodup_append] at nd
      exact nd.2.2 p.1 (List.mem_map_of_mem hp) I (by simp) (List.mem_singleton.mp z)


variable {E : Value → Shared → Prop}
theorem iter_range {r : Addr} {n : Nat} {t u v : Tok} {Q : Value → Shared → Prop} (hh : A.handled = none) (F : Fr h₀ L s.heap m) (D : Ld h₀ L s.heap l) (hr : IsRange s.heap r 0 n 1 t u v) (hn : n ≤ 100000)
    (h : ∀ I oI h', Fr h₀ L h' m → Ld h₀ L h' (l ++ [(I, oI)]) → LoopIt prog w A I [I] n (fun i v => ∃ t, v = .int (0 + (i : Int)) t) (fun i h => IsRangeIter h I (0 + (i : Nat) * 1) ((n : Int) - (i : Nat)) 1) h' → Q (.ref I) { s with heap := h' }) :
    wpAny (model prog w) A (pyIter (.ref r)) Q E s := by
  refine wpAny_pyIter_range hr (small_one (by decide) (by decide) (by omega) (by omega)) ?_
  have e : Builtin.Range.rangeSize 0 (n : Int) 1 = ((n : Nat) : Int) := by rw [rangeSize_nat]; simp
  refine h _ _ _ (F.push _) (D.snoc F _) ⟨LCg.range_walks hh 0 n, fun i h st => ⟨_, st⟩, ?_⟩
  show IsRangeIter _ _ _ _ _
  rw [e]
  simpa using Heap.get?_push_size _ rfl
end
end
end Mine
end
-- part PB
section
open PySem PySem.W PySem.Calls PyProof.Rows
set_option Elab.async false
set_option maxRecDepth 100000
namespace Mine
noncomputable section
theorem room_law {env : Env} : Room (callerA.deeper env) 8 := ⟨by rw [depth_deeper]; decide, by rw [units_deeper]; decide, rfl⟩
/-- an object that no state of the reader points to -/
noncomputable def Strange (o : Obj) : Prop := (∀ f x, o ≠ methodObj f x) ∧ ∀ (prog : Program) (w : World) x, ¬ ErrObj prog w o x
theorem rng_strange {a b c : Int} : Strange { cls := .type "range_iterator", dict := none, data := .fields #[rawInt a, rawInt b, rawInt c], slots := #[] } := by
  refine ⟨fun f x h => ?_, fun prog w x h => ?_⟩
  · have := congrArg Obj.cls h
    simp at this
  · obtain ⟨kvs, t, u, ⟨es, ep, _, hd, _⟩, _⟩ := h
    cases hd
section
variable {prog : Program} {w : World} {c : Cx} {z : SD} {M : Mc} {d : Dy} {rest rest' : List (Addr × Obj)}
theorem Rep.mono (h : Rep prog w c z M d rest) (hs : ∀ q ∈ rest, q ∈ rest') : Rep prog w c z M d rest' := by
  obtain ⟨⟨mu, e, hm⟩, h2, h3, ⟨vals, h4, h5⟩, h6, h7, h8⟩ := h
  exact ⟨⟨mu, e, hs _ hm⟩, h2, h3, ⟨vals, h4.mono hs, h5⟩, h6, h7, h8⟩
theorem paired_mem' {α β : Type} {R : α → β → Prop} : ∀ {l : List α} {l' : List β}, Paired R l l' → ∀ {p : α}, p ∈ l → ∃ f, R p f
  | [], _, _, _, h => by cases h
  | x :: l, _, h, p, hp => by
    cases h with
    | cons h1 h2 =>
      rcases List.mem_cons.mp hp with rfl | q
      · exact ⟨_, h1⟩
      · exact paired_mem' h2 q
theorem Rep.shrink {I : Addr} {oI : Obj} (h : Rep prog w c z M d rest') (hp : rest'.Perm ((I, oI) :: rest)) (hs : Strange oI) : Rep prog w c z M d rest := by
  obtain ⟨⟨mu, e, hm⟩, h2, h3, ⟨vals, ⟨l, e1, e2, e3⟩, h5⟩, h6, h7, h8⟩ := h
  have into : ∀ q ∈ rest', q ≠ (I, oI) → q ∈ rest := fun q hq n => (List.mem_cons.mp (hp.mem_iff.mp hq)).resolve_left n
  refine ⟨⟨mu, e, into _ hm fun q => hs.1 _ _ (congrArg Prod.snd q).symm⟩, h2, h3, ⟨vals, ⟨l, e1, fun p hp' => into _ (e2 p hp') fun q => ?_, e3⟩, h5⟩, h6, h7, h8⟩
  obtain ⟨f, hf⟩ := paired_mem' e3 hp'
  rw [q] at hf
  exact hs.2 _ _ _ hf
end
section
variable {prog : Program} {w : World} {A : Around} {E : Value → Shared → Prop} {s : Shared} {h₀ : Heap} {L a : Addr} {m : Str → Option Value} {rest : List (Addr × Obj)}
  {p : Program} {loose : List Str} {mg mb : Str → Option Value} {cn : Str} {cs : Scope} {cd : Value} {c : Cx} {d : Dy} {z : SD} {M Mf : Mc}

set_option maxHeartbeats 2000000 in
theorem law_loop {x : Str} {tx : Tok} {K : Nat} {kk k1 k2 k3 : Nat} {p1 p2 p3 p4 p5 p6 p7 p8 q1 q2 q3 q4 q5 q6 q7 q8 q9 r1 r2 r3 r4 r5 r6 r7 r8 r9 s1 s2 s3 s4 s5 : Pos} {Q : Flow → Shared → Prop} (hA : Room A 5) (F : Fr h₀ L s.heap m) (X : (Mine.hd.heap_1 w.params).In h₀) (T₀ : TopRead p loose mg mb h₀) (D : Ld h₀ L s.heap (led w.params c d ++ rest)) (hx : m "reader" = some (.ref c.r)) (ht : m "text" = some (.str x tx)) (hz : ZOk z)
    (hr : Rep prog w c z M d rest) (hreach : Reach prog w c z K M Mf) (hK : K ≤ x.length + 6) (hxl : x.length ≤ 9000) (hdone : Mf.done = true)
    (h : ∀ h' tk mm d' rest', (∀ y : Str, y ≠ "_" → mm y = m y) → Fr h₀ L h' mm → Ld h₀ L h' (led w.params c d' ++ rest') → Rep prog w c z Mf d' rest' → (∀ q ∈ rest, q ∈ rest') → Q .next { s with heap := h', toks := tk })
    (hk : cs.kind = .function) (y1 : (envOf cn cs L a cd).kindOf "reader" = some .local) (y2 : (envOf cn cs L a cd).kindOf "tokenTypes" = some .globalImplicit) (y3 : (envOf cn cs L a cd).kindOf "range" = some .globalImplicit) (y4 : (envOf cn cs L a cd).kindOf "len" = some .globalImplicit) (y5 : (envOf cn cs L a cd).kindOf "text" = some .local) (y6 : (envOf cn cs L a cd).kindOf "_" = some .local)
    (hp : (s2.endLine == s3.line) = true) (hfold : ∀ x, foldedSetIterable (.Call (.Name "range" p2) [.BinOp (.Call (.Name "len" p3) [.Name "text" p4] [] p5) .Add (.Constant (.int 6) k3 p6) p7] [] p8) (envOf cn cs L a cd) x = pure x) :
    wpAny (model prog w) A (exec (.For (.Name "_" p1) (.Call (.Name "range" p2) [.BinOp (.Call (.Name "len" p3) [.Name "text" p4] [] p5) .Add (.Constant (.int 6) k3 p6) p7] [] p8)
      [.If (.BoolOp .Or [.Compare (.Attribute (.Name "reader" q1) "tokenQueue" q2) [.Eq] [.List [] q3] q4,
      .Compare (.Subscript (.Subscript (.Attribute (.Name "reader" q5) "tokenQueue" q6) (.UnaryOp .USub (.Constant (.int 1) kk q7) q8) q9) (.Constant (.str "type") k1 r1) r2) [.NotEq] [.Subscript (.Name "tokenTypes" r3) (.Constant (.str "Doctype") k2 r4) r5] r6] r7)
        [.Expr (.Call (.Attribute (.Name "reader" s1) "state" s2) [] [] s3) s4] [] r8] [] r9) (envOf cn cs L a cd)) Q E s := by
  have hu : A.units < cLine := by
    have := hA.units
    show A.units < cLine
    have : cLine ≥ 4000 := by decide
    omega
  refine wpAny_For ?_ hfold
  refine Call_ (name_B F X T₀ g_range (by boot_fast) (by decide) ?_ hk y3)
  refine PyProof.Rows.callWith_type rfl (evalArgs_plain (spliced_cons ?_))
  refine wpAny_BinOp (op_b1 F X T₀ g_len (by boot_fast) (by decide) (ld F ht ?_ hk y5) rfl hk y4)
  refine P.len_str (by omega) ?_
  refine wpAny_Constant_int (PyProof.Rows.add_int (spliced_nil ?_))
  have en : ((x.length : Int) + 6) = ((x.length + 6 : Nat) : Int) := by omega
  rw [en]
  refine range1_rows F D.N fun h₁ tk₁ t₁ u₁ v₁ hR F₁ N₁ hk₁ => ?_
  have D₁ : Ld h₀ L h₁ (led w.params c d ++ rest) := ⟨N₁, D.nd⟩
  refine iter_range (s := { s with heap := h₁, toks := tk₁ }) hA.handled F₁ D₁ hR (by omega) fun I oI h₂ F₂ D₂ IT => ?_
  refine for_st (s := { s with heap := h₂, toks := tk₁ }) (fun i m₁ l₁ => (∀ y : Str, y ≠ "_" → m₁ y = m y) ∧ ∃ M' d' rest' k', l₁ = led w.params c d' ++ rest' ∧ Rep prog w c z M' d' rest' ∧ (∀ q ∈ rest, q ∈ rest') ∧ Reach prog w c z k' M' Mf ∧ k' ≤ x.length + 6 - i) IT y6
    (by rw [show (envOf cn cs L a cd).scope.kind = .function from hk]; rfl) rfl (fun b hb => .inl (List.mem_singleton.mp hb)) F₂ D₂ ⟨fun _ _ => rfl, M, d, rest, K, rfl, hr, fun _ h => h, hreach, hK⟩ ?_ ?_
  · rintro i v m₁ l₁ h₃ tk₃ oI' hi hP hst ⟨hm₁, M', d', rest', k', rfl, hr', hsub, hre, hk'⟩ F₃ D₃
    have hoI : oI' = { cls := .type "range_iterator", dict := none, data := .fields #[rawInt (0 + ((i + 1 : Nat) : Int) * 1), rawInt (((x.length + 6 : Nat) : Int) - ((i + 1 : Nat) : Int)), rawInt 1], slots := #[] } := by
      have h1 := (D₃.N (I, oI') (List.mem_append_right _ (.head _))).1
      have h2 : h₃.get? I = some _ := hst
      rw [h1] at h2
      exact Option.some.inj h2
    have hstr : Strange oI' := by rw [hoI]; exact rng_strange
    have hx₁ : (fun y => if y = "_" then some v else m₁ y) "reader" = some (.ref c.r) := (if_neg (by decide)).trans ((hm₁ _ (by decide)).trans hx)
    have D₃' : Ld h₀ L h₃ (led w.params c d' ++ (rest' ++ [(I, oI')])) := by rw [← List.append_assoc]; exact D₃
    have hr₃ : Rep prog w c z M' d' (rest' ++ [(I, oI')]) := hr'.mono fun q hq => List.mem_append_left _ hq
    refine wpAny_execs_cons (wpAny_If (t_open (s := { s with heap := h₃, toks := tk₃ }) hu F₃ X T₀ D₃' hx₁ hr₃ (fun h₄ tk₄ F₄ D₄ => ?_) hk y1 y2))
    cases hre with
    | refl _ =>
      rw [hdone]
      refine ite_f rfl ?_
      refine wpAny_execs_nil (wpAny_execs_nil ?_)
      refine ⟨h₄, tk₄, _, led w.params c d' ++ rest', rfl, F₄, by rw [List.append_assoc]; exact D₄, fun y hy => (if_neg hy).trans (hm₁ y hy), Mf, d', rest', 0, rfl, hr', hsub, .refl _, Nat.zero_le _⟩
    | @step k M₀ M₁ M₂ hrun hd hf hre' =>
      rw [hd]
      refine ite_t rfl ?_
      refine wpAny_execs_cons (wpAny_Expr (e_state (s := { s with heap := h₄, toks := tk₄ }) (M := M') (hA.le (by decide)) F₄ X T₀ D₄ hx₁ hr₃.st ?_ hk y1 hp) (by unfold interactive; rw [show (envOf cn cs L a cd).scope.kind = .function from hk]; rfl))
      refine hrun A _ h₀ L _ _ _ p loose mg mb d' (hA.le (by decide)) F₄ D₄ X T₀ hz hr₃ hf ?_
      intro d₅ rest₅ h₅ tk₅ hr₅ hsub₅ F₅ D₅
      obtain ⟨rest₆, hperm⟩ := perm_pick (l := rest₅) (e := [(I, oI')]) (by simp) (fun q hq => by rw [List.mem_singleton.mp hq]; exact hsub₅ _ (List.mem_append_right _ (.head _)))
      have hperm' : rest₅.Perm ((I, oI') :: rest₆) := hperm
      have hr₆ := hr₅.shrink hperm' hstr
      have D₆ : Ld h₀ L h₅ ((led w.params c d₅ ++ rest₆) ++ [(I, oI')]) := by
        refine Ld.perm D₅ ?_
        rw [List.append_assoc]
        refine List.Perm.append_left _ ?_
        exact (List.perm_append_comm (l₁ := rest₆) (l₂ := [(I, oI')])).trans hperm'.symm
      refine wpAny_execs_nil (wpAny_execs_nil ?_)
      refine ⟨h₅, tk₅, _, led w.params c d₅ ++ rest₆, rfl, F₅, D₆, fun y hy => (if_neg hy).trans (hm₁ y hy), M₁, d₅, rest₆, k, rfl, hr₆, fun q hq => ?_, hre', by omega⟩
      have h1 := hsub₅ q (List.mem_append_left _ (hsub q hq))
      rcases List.mem_cons.mp (hperm'.mem_iff.mp h1) with e | e
      · exact absurd (congrArg Prod.fst e) (nd_snoc_ne D₃.nd (List.mem_append_right _ (hsub q hq)))
      · exact e
  · rintro m₁ l₁ h₃ tk₃ ⟨hm₁, M', d', rest', k', rfl, hr', hsub, hre, hk'⟩ F₃ D₃
    have h0 : k' = 0 := by omega
    subst h0
    cases hre
    exact h _ _ _ _ _ hm₁ F₃ D₃ hr' hsub
end
end
end Mine
end
-- part PC
section
open PySem PySem.W PySem.Calls PyProof.Rows PySem.SeqAt
set_option Elab.async false
set_option maxRecDepth 100000
namespace Mine
noncomputable section
theorem kl_last_snoc (v : Value) : ∀ l : List Value, kl_last (l ++ [v]) = some (l, v)
  | [] => rfl
  | x :: l => by
    have ih := kl_last_snoc v l
    show (match kl_last (l ++ [v]) with | some (p, y) => some (x :: p, y) | none => some ([], x)) = _
    rw [ih]
noncomputable def tup3 (a b c : Value) : Obj := { cls := .type "tuple", data := .seq ([a, b, c] : List Value).toArray }
section
variable {prog : Program} {w : World} {A : Around} {E : Value → Shared → Prop} {s : Shared} {h₀ : Heap} {L a : Addr} {m : Str → Option Value} {rest l : List (Addr × Obj)}
  {p : Program} {loose : List Str} {mg mb : Str → Option Value} {cn : Str} {cs : Scope} {cd : Value} {c : Cx} {d : Dy} {z : SD} {M Mf : Mc}

/-- told = reader.tokenQueue.pop() -/
theorem op_pop {vals : Array Value} {v : Value} {p1 p2 p3 p4 p5 p6 : Pos} {Q : Flow → Shared → Prop} (F : Fr h₀ L s.heap m) (X : (Mine.hd.heap_1 w.params).In h₀) (D : Ld h₀ L s.heap (led w.params c d ++ rest)) (hx : m "reader" = some (.ref c.r)) (hv : d.vals = vals.push v) (hsz : vals.size ≤ 1000)
    (h : ∀ h' tk, Fr h₀ L h' (fun y => if y = "told" then some v else m y) → Ld h₀ L h' (led w.params c { d with vals := vals, nq := d.nq + 1 } ++ rest) → Q .next { s with heap := h', toks := tk })
    (hk : cs.kind = .function) (y1 : (envOf cn cs L a cd).kindOf "reader" = some .local) (y2 : (envOf cn cs L a cd).kindOf "told" = some .local) :
    wpAny (model prog w) A (exec (.Assign [.Name "told" p1] (.Call (.Attribute (.Attribute (.Name "reader" p2) "tokenQueue" p3) "pop" p4) [] [] p5) p6) (envOf cn cs L a cd)) Q E s := by
  refine wpAny_Assign_Name (MCallA (fun pl pq => v_queue F X D hx ?_ hk y1) rfl)
  refine kl_method D.N m_q PySem.F.slot_list_pop PySem.F.type_list_pop ?_
  refine callWith_builtin rfl (evalArgs_nil3 ?_)
  have e : kl_last d.vals.toList = some (vals.toList, v) := by
    rw [hv, Array.toList_push]
    exact kl_last_snoc v _
  refine kl_pop F D.N e (upd_q D.nd vals.toList.toArray (d.nq + 1)) (by rw [hv, sizeLine_eq]; simp; omega) fun h₁ F₁ N₁ => ?_
  refine stN F₁ N₁ (fun h₂ F₂ N₂ => ?_) hk y2
  refine h h₂ _ F₂ ⟨?_, nd_led D.nd _⟩
  have e2 : vals.toList.toArray = vals := Array.toArray_toList
  rw [e2] at N₂
  exact N₂

theorem sliceApplied_3 {sl : Addr} {u : Tok} {Q : Int × Int × Nat → Shared → Prop} (hs : s.heap.IsSliceOf sl .none (.int 3 u) .none) (h : Q (0, 1, 3) s) :
    wpAny (model prog w) A (Builtin.Slice.sliceApplied (.ref sl) (pure ((4 : Nat) : Int))) Q E s := by
  obtain ⟨os, hos, hcs, hds⟩ := id hs
  unfold Builtin.Slice.sliceApplied Builtin.Slice.sliceFields
  refine wpAny_bind (wpAny_bind (wpAny_field hos hds (x := .none) rfl (wpAny_bind (wpAny_field hos hds (x := .int 3 u) rfl (wpAny_bind (wpAny_field hos hds (x := .none) rfl (wpAny_pure ?_)))))))
  refine wpAny_bind (slicePart_none ?_)
  show wpAny _ _ (if ((1 : Int) == 0) = true then _ else _) _ _ s
  rw [if_neg (by decide)]
  refine wpAny_bind (slicePart_none (wpAny_bind (slicePart_int (wpAny_bind (wpAny_pure ?_)))))
  show wpAny _ _ (match Builtin.Slice.sliceAdjust none (some 3) 1 4 with | (lo, hi) => pure (lo, (1 : Int), Builtin.Slice.slicePlaces lo hi 1)) _ _ s
  rw [show Builtin.Slice.sliceAdjust none (some 3) 1 4 = ((0 : Int), (3 : Int)) from by decide]
  show wpAny _ _ (pure ((0 : Int), (1 : Int), Builtin.Slice.slicePlaces 0 3 1)) _ _ s
  rw [show Builtin.Slice.slicePlaces 0 3 1 = 3 from by decide]
  exact wpAny_pure h

theorem getItem_tup3 {t sl : Addr} {v1 v2 v3 v4 : Value} {u : Tok} {Q : Value → Shared → Prop} (ht : IsTup s.heap t ([v1, v2, v3, v4] : List Value).toArray) (hs : s.heap.IsSliceOf sl .none (.int 3 u) .none)
    (h : Q (.ref s.heap.objs.size) { s with heap := s.heap.push (tup3 v1 v2 v3) }) : wpAny (model prog w) A (getItem (.ref t) (.ref sl)) Q E s := by
  have hok : sizeOk (.seq ([v1, v2, v3] : List Value).toArray) := by
    show 3 ≤ sizeLine
    decide
  obtain ⟨os, hos, hcs, hds⟩ := id hs
  have hTs : s.TypeIs (.ref sl) "slice" := ⟨os, hos, hcs⟩
  unfold getItem
  try with_reducible refine wpAny_holding ?_
  first | refine wpAny_bind (wpAny_pure ?_) | skip
  refine wpAny_bind (wpAny_sequenceKey ht.typeIs (by decide) ?_)
  refine wpAny_bind (wpAny_callSpecial?_slot (name := Str.ofString "__getitem__") ht.typeIs slot_tuple_getitem
    (wpAny_call_entry slot_tuple_getitem ht.typeIs entry_tuple_getitem ?_ (args_tuple_getitem _ _)))
  show wpAny _ _ (Builtin.Tuple.tupleItemsOf (.ref t) >>= _) _ _ s
  refine wpAny_bind (tupleItemsOf_ ht ?_)
  refine wpAny_bind (wpAny_typeOf hTs ?_)
  rw [if_pos (by decide)]
  refine wpAny_bind (sliceApplied_3 hs ?_)
  show wpAny _ _ (if (((0 : Int) == 0) && ((1 : Int) == 1) && (3 == 4)) = true then _ else _) _ _ s
  rw [if_neg (by decide)]
  have e : ((List.range 3).filterMap fun (k : Nat) => ([v1, v2, v3, v4] : List Value).toArray[((0 : Int) + (k : Int) * 1).toNat]?).toArray = ([v1, v2, v3] : List Value).toArray := rfl
  rw [e]
  first
    | exact wpAny_bind (m := Builtin.Tuple.tupleExact _) (wpAny_newObj_type (wpAny_pure ⟨_, rfl, wpAny_pure h⟩) hok)
    | exact wpAny_bind (m := Builtin.Tuple.tupleExact _) (wpAny_newObj_type (wpAny_bind (wpAny_pure (wpAny_pure ⟨_, rfl, wpAny_pure h⟩))) hok)
    | exact wpAny_bind (wpAny_bind (m := Builtin.Tuple.tupleExact _) (wpAny_newObj_type (wpAny_pure (wpAny_pure ⟨_, rfl, wpAny_pure h⟩)) hok))
    | exact wpAny_bind (wpAny_bind (m := Builtin.Tuple.tupleExact _) (wpAny_newObj_type (wpAny_pure ⟨_, rfl, wpAny_pure h⟩) hok))

/-- x[:3] of a tuple of four -/
theorem e_slice3 {x : Str} {t : Addr} {v1 v2 v3 v4 : Value} {k : Nat} {p1 p2 p3 p4 : Pos} {Q : Value → Shared → Prop} (F : Fr h₀ L s.heap m) (D : Ld h₀ L s.heap l) (hx : m x = some (.ref t)) (ht : (t, tup4 v1 v2 v3 v4) ∈ l)
    (h : ∀ b h' tk, Fr h₀ L h' m → Ld h₀ L h' (l ++ [(b, tup3 v1 v2 v3)]) → Q (.ref b) { s with heap := h', toks := tk })
    (hk : cs.kind = .function := by rfl) (hy : (envOf cn cs L a cd).kindOf x = some .local := by rfl) (hd : (x == ("__debug__" : Str)) = false := by decide) :
    wpAny (model prog w) A (eval (.Subscript (.Name x p1) (.Slice none (some (.Constant (.int 3) k p2)) none p3) p4) (envOf cn cs L a cd)) Q E s := by
  refine Subscript_ (ld F hx ?_ hk hy hd)
  refine wpAny_Slice (evalPart_none_step (evalPart_some_step (wpAny_Constant_int (evalPart_none_step ?_))))
  have hT : IsTup s.heap t ([v1, v2, v3, v4] : List Value).toArray := ⟨_, D.N.get ht, rfl, _, rfl⟩
  have hT' : ∀ o : Obj, IsTup (s.heap.push o) t ([v1, v2, v3, v4] : List Value).toArray := fun o => hT.keeps fun _ _ e => Heap.get?_push_of_some _ e
  refine subscriptTail_ops (ops := [.ref s.heap.objs.size, .ref t]) (hT' _).typeIs slot_tuple_getitem.lookup (getItem_tup3 (hT' _) (Heap.IsSliceOf.new ..) ?_) (by with_unfolding_all rfl) (by intro _; with_unfolding_all rfl)
  have up : ∀ (o : Obj) b o', s.heap.get? b = some o' → (s.heap.push o).get? b = some o' := fun o b o' e => Heap.get?_push_of_some _ e
  have F₁ := F.push (o := ({ cls := .type "slice", data := .fields #[.none, .int 3 s.toks, .none] } : Obj))
  have D₁ : Ld h₀ L (s.heap.push { cls := .type "slice", data := .fields #[.none, .int 3 s.toks, .none] }) l := ⟨D.N.grown (up _), D.nd⟩
  exact h _ _ _ (F₁.push _) (D₁.snoc (s := { s with heap := s.heap.push { cls := .type "slice", data := .fields #[.none, .int 3 s.toks, .none] } }) F₁ _)
end
end
end Mine
end
-- part PD
section
open PySem PySem.W PySem.Calls PyProof.Rows PySem.SeqAt
set_option Elab.async false
set_option maxRecDepth 100000
namespace Mine
noncomputable section
theorem tkl_ok (v0 v1 v2 v3 v4) : valueAt (tkl v0 v1 v2 v3 v4) "correct" = some v4 := by kernel_rfl
theorem eqAt_opt {A : Around} {s : Shared} {o : Option Str} {v v' : Value} (h : OptV o v) (h' : OptV o v') : EqAt A s v v' true := by
  cases o with
  | none => rw [show v = .none from h, show v' = .none from h']; exact EqAt.same _
  | some x =>
    obtain ⟨t, rfl⟩ := h
    obtain ⟨t', rfl⟩ := h'
    have := EqAt.str_str (A := A) (s := s) x t x t'
    rwa [beq_self_eq_true] at this
theorem eqAt_str {A : Around} {s : Shared} (x : Str) (t t' : Tok) : EqAt A s (.str x t) (.str x t') true := by
  have := EqAt.str_str (A := A) (s := s) x t x t'
  rwa [beq_self_eq_true] at this
theorem eqAt_int {A : Around} {s : Shared} (x : Int) (t t' : Tok) : EqAt A s (.int x t) (.int x t') true := by
  have := EqAt.int_int (A := A) (s := s) x t x t'
  rwa [beq_self_eq_true] at this
section
variable {prog : Program} {w : World} {A : Around} {E : Value → Shared → Prop} {s : Shared} {h₀ : Heap} {L a : Addr} {m : Str → Option Value} {rest l : List (Addr × Obj)}
  {p : Program} {loose : List Str} {mg mb : Str → Option Value} {cn : Str} {cs : Scope} {cd : Value} {c : Cx} {d : Dy} {z : SD} {M Mf : Mc}

/-- x[key] of a dict with keys that are texts -/
theorem e_item {x key : Str} {b : Addr} {o : Obj} {v : Value} {kvs : List (Str × Value)} {k : Nat} {p1 p2 p3 : Pos} {Q : Value → Shared → Prop} (F : Fr h₀ L s.heap m) (D : Ld h₀ L s.heap l) (hx : m x = some (.ref b)) (hb : (b, o) ∈ l) (ho : o.IsDictOf (strKind prog w) kvs) (hv : valueAt kvs key = some v)
    (h : ∀ tk, Q v { s with toks := tk })
    (hk : cs.kind = .function := by rfl) (hy : (envOf cn cs L a cd).kindOf x = some .local := by rfl) (hd : (x == ("__debug__" : Str)) = false := by decide) :
    wpAny (model prog w) A (eval (.Subscript (.Name x p1) (.Constant (.str key) k p2) p3) (envOf cn cs L a cd)) Q E s := by
  refine Subscript_ (ld F hx (wpAny_Constant_str ?_) hk hy hd)
  have hT : s.heap.DictOf (strKind prog w) b kvs := Heap.dictOf_iff.mpr ⟨_, (D.N _ hb).1, ho⟩
  exact tail_any (ops := [.ref b, .str key _]) hT.mapOf.typeIs slot_dict_getitem.lookup (wpAny_getItem_of (strKind_is prog w key _) hT.mapOf hv (h _)) rfl

set_option maxHeartbeats 1000000 in
/-- (told['name'], told['publicId'], told['systemId']) != wanted[:3] or told['correct'] is not wanted[3] -/
theorem t_told {tk wt : Addr} {o : Obj} {nm : Str} {pb sy : Option Str} {ok : Bool} {t0 t1 t2 : Tok} {v2 v3 w2 w3 : Value} {k1 k2 k3 k4 k5 k6 k7 : Nat} {p1 p2 p3 p4 p5 p6 p7 p8 p9 p10 p11 p12 p13 p14 p15 q1 q2 q3 q4 q5 q6 q7 q8 : Pos} {whole : Sem Value} {Q : Bool → Shared → Prop} (hu : A.units < cLine)
    (F : Fr h₀ L s.heap m) (D : Ld h₀ L s.heap l) (hx : m "told" = some (.ref tk)) (hw : m "wanted" = some (.ref wt)) (hb : (tk, o) ∈ l) (ho : o.IsDictOf (strKind prog w) (tkl (.int 0 t0) (.str nm t1) v2 v3 (.bool ok))) (hwt : (wt, tup4 (.str nm t2) w2 w3 (.bool ok)) ∈ l) (e2 : OptV pb v2) (e3 : OptV sy v3) (e2' : OptV pb w2) (e3' : OptV sy w3)
    (h : ∀ h' tk l', Fr h₀ L h' m → Ld h₀ L h' l' → (∀ z ∈ l, z ∈ l') → Q false { s with heap := h', toks := tk })
    (hk : cs.kind = .function := by rfl) (y1 : (envOf cn cs L a cd).kindOf "told" = some .local := by rfl) (y2 : (envOf cn cs L a cd).kindOf "wanted" = some .local := by rfl) :
    wpAny (model prog w) A (isTrue (.BoolOp .Or [.Compare (.Tuple [.Subscript (.Name "told" p1) (.Constant (.str "name") k1 p2) p3, .Subscript (.Name "told" p4) (.Constant (.str "publicId") k2 p5) p6, .Subscript (.Name "told" p7) (.Constant (.str "systemId") k3 p8) p9] k4 p10) [.NotEq]
      [.Subscript (.Name "wanted" p11) (.Slice none (some (.Constant (.int 3) k5 p12)) none p13) p14] p15,
      .Compare (.Subscript (.Name "told" q1) (.Constant (.str "correct") k6 q2) q3) [.IsNot] [.Subscript (.Name "wanted" q4) (.Constant (.int 3) k7 q5) q6] q7] q8) (envOf cn cs L a cd) whole) Q E s := by
  refine isTrue_or (wpAny_isTrue_Compare1 (Tuple_ ?_))
  refine wpAny_items_cons (e_item F D hx hb ho (tkl_name _ _ _ _ _) (fun tk₁ => ?_) hk y1)
  refine wpAny_items_cons (e_item (s := { s with toks := tk₁ }) F D hx hb ho (tkl_pub _ _ _ _ _) (fun tk₂ => ?_) hk y1)
  refine wpAny_items_cons (e_item (s := { s with toks := tk₂ }) F D hx hb ho (tkl_sys _ _ _ _ _) (fun tk₃ => wpAny_items_nil ?_) hk y1)
  refine newTup_ld (s := { s with toks := tk₃ }) F D (fun b₁ h₁ F₁ D₁ => ?_) (by show 3 ≤ sizeLine; decide)
  refine e_slice3 (s := { s with heap := h₁, toks := tk₃ }) F₁ D₁ hw (List.mem_append_left _ hwt) (fun b₂ h₂ tk₄ F₂ D₂ => ?_) hk y2
  have H1 : Heap.IsTuple ({ s with heap := h₂, toks := tk₄ } : Shared).heap b₁ ([.str nm t1, v2, v3] : List Value).toArray := News.isTup D₂.N (List.mem_append_left _ (List.mem_append_right _ (.head _)))
  have H2 : Heap.IsTuple ({ s with heap := h₂, toks := tk₄ } : Shared).heap b₂ ([.str nm t2, w2, w3] : List Value).toArray := News.isTup D₂.N (List.mem_append_right _ (.head _))
  have key : RcNeAt A { s with heap := h₂, toks := tk₄ } (.ref b₁) (.ref b₂) false := RcNeAt.tuples (e := fun _ => true) H1 H2 hu fun j h1 h2 => by
    have hj : j < 3 := h1
    match j, hj with
    | 0, _ => exact eqAt_str nm t1 t2
    | 1, _ => exact eqAt_opt e2 e2'
    | 2, _ => exact eqAt_opt e3 e3'
  refine (show wpAny (model prog w) A (compareOp .NotEq (.ref b₁) (.ref b₂)) _ E _ from key prog w E _ (wpAny_truthy_bool ?_))
  refine ite_f rfl ?_
  have up : ∀ z ∈ l, z ∈ (l ++ [(b₁, ({ cls := .type "tuple", data := .seq ([.str nm t1, v2, v3] : List Value).toArray } : Obj))]) ++ [(b₂, tup3 (.str nm t2) w2 w3)] := fun z hz => List.mem_append_left _ (List.mem_append_left _ hz)
  refine isTrue_or (wpAny_isTrue_Compare1 (e_item (s := { s with heap := h₂, toks := tk₄ }) F₂ D₂ hx (up _ hb) ho (tkl_ok _ _ _ _ _) (fun tk₅ => ?_) hk y1))
  refine Subscript_ (ld F₂ hw (wpAny_Constant_int ?_) hk y2)
  refine item_tupleL (s := { s with heap := h₂, toks := tk₅ + 1 }) (t := wt) (l := [.str nm t2, w2, w3, .bool ok]) (j := 3) (x := .bool ok) (News.isTup D₂.N (up _ hwt)) (by decide) (by decide) rfl rfl ?_
  refine isnot_bool (wpAny_truthy_bool ?_)
  have e : (ok != ok) = false := by cases ok <;> rfl
  refine ite_f e ?_
  exact isTrue_or_nil (h _ _ _ F₂ D₂ up)
end
end
end Mine
end
-- part PE
section
open PySem PySem.W PySem.Calls PyProof.Rows PySem.SeqAt
set_option Elab.async false
set_option maxRecDepth 100000
namespace Mine
noncomputable section
noncomputable def pairO (a b : Value) : Obj := { cls := .type "tuple", data := .seq ([a, b] : List Value).toArray }
/-- a list of pairs: the mark of an error, its text -/
structure Pairs7 (l : List (Addr × Obj)) (items : List Value) (fs : List Str) : Prop where
  len : items.length = fs.length
  at' : ∀ (j : Nat) (f : Str), fs[j]? = some f → ∃ a t u, items[j]? = some (.ref a) ∧ (a, pairO (.int 7 t) (.str f u)) ∈ l
section
variable {prog : Program} {w : World} {A : Around} {E : Value → Shared → Prop} {s : Shared} {h₀ : Heap} {L a : Addr} {m : Str → Option Value} {rest l : List (Addr × Obj)}
  {p : Program} {loose : List Str} {mg mb : Str → Option Value} {cn : Str} {cs : Scope} {cd : Value} {c : Cx} {d : Dy} {z : SD} {M Mf : Mc} {cl : List (Str × Addr)} {env : Env}

theorem comp_core {x : Str} {elt iter : Expr} {sc : Scope} {ax : Addr} {its : Array Value} {k : Nat} {fs : List Str} {px pos : Pos} {Q : Value → Shared → Prop} (hA : A.handled = none) (F : Fr h₀ L s.heap m)
    (D : Ld h₀ L s.heap l) (hax : (ax, PySem.W.listOf its k) ∈ l) (hlen : its.size = fs.length) (hsz : fs.length ≤ 1000)
    (hiter : ∀ (E' : Value → Shared → Prop) (Q' : Value → Shared → Prop), (∀ tk, Q' (.ref ax) { s with toks := tk }) → wpAny (model prog w) A (eval iter env) Q' E' s)
    (helt : ∀ (j : Nat) (v : Value) (f : Str) (I : Addr) (oI : Obj) (C : Addr) (oC : Obj) (Dd : Addr) (ys : List Value) (m₂ : Str → Option Value) (h : Heap) (tk : Nat) (news : List (Addr × Obj)) (E' : Value → Shared → Prop) (Q' : Value → Shared → Prop), its[j]? = some v → fs[j]? = some f → LCg.NsObj oC m₂ → m₂ x = some v → Fr h₀ L h m →
      Ld h₀ L h ((I, oI) :: (C, oC) :: (Dd, LCg.lst ys) :: news) → (∀ z ∈ l, z ∈ news) → (∀ b h' tk' t u, Fr h₀ L h' m → Ld h₀ L h' (((I, oI) :: (C, oC) :: (Dd, LCg.lst ys) :: news) ++ [(b, pairO (.int 7 t) (.str f u))]) → Q' (.ref b) { s with heap := h', toks := tk' }) →
      wpAny (model prog w) A (eval elt (compEnvC sc cl C env)) Q' E' { s with heap := h, toks := tk })
    (hQ : ∀ Dd h' tk l' items k', Fr h₀ L h' m → Ld h₀ L h' l' → (Dd, PySem.W.listOf items.toArray k') ∈ l' → Pairs7 l' items fs → (∀ z ∈ l, z ∈ l') → Q (.ref Dd) { s with heap := h', toks := tk })
    (hclos : closureFor sc env = pure cl) (hcell : ∀ z ∈ sc.names, z.2 ≠ .cell) (hkind : sc.kind = .function)
    (hnames : ∀ z ∈ sc.names, z.2 = .local → sc.names.lookup z.1 = some .local) (hx : sc.names.lookup x = some .local)
    (hfold : ∀ x, foldedSetIterable iter env x = pure x) :
    wpAny (model prog w) A (eval (.ListComp elt [⟨.Name x px, iter, [], 0⟩] sc pos) env) Q E s := by
  refine LCg.ListComp_U F hclos hcell hkind hnames hx (hiter _ _ fun tk₀ => ?_) hfold
  refine LCg.CompSrc.ledger (s₁ := { s with toks := tk₀ }) (k := k) hA F D.N hax (by rw [sizeLine_eq]; omega) fun g => ?_
  have key : ∀ (k' i : Nat) (ys : List Value) (news : List (Addr × Obj)), i + k' = its.size → Pairs7 news ys (fs.take i) → (news.map (·.1)).Nodup → (∀ z ∈ l, z ∈ news) →
      LCg.CompRest prog w A h₀ L m env elt x sc cl { { s with toks := tk₀ } with heap := g } (LCg.SrcAt h₀ ax its) (fun i v => its[i]? = some v) (LCg.FinE h₀ L m { { s with toks := tk₀ } with heap := g } Q) k' i ys news := by
    intro k'
    induction k' with
    | zero =>
      intro i ys news hi hp nd keep
      refine LCg.CompRest.zero fun b h' tk' F' N' o1 => ?_
      have oD := off1_mem o1
      rw [List.take_of_length_le (by omega)] at hp
      refine hQ b h' tk' _ ys _ F' ⟨N', List.nodup_cons.mpr ⟨fun z => ?_, nd⟩⟩ (.head _) ⟨hp.len, fun j f hf => ?_⟩ fun z hz => .tail _ (keep z hz)
      · obtain ⟨p, hp', e⟩ := List.mem_map.mp z
        exact oD p hp' e
      · obtain ⟨a', t, u, e1, e2⟩ := hp.at' j f hf
        exact ⟨a', t, u, e1, .tail _ e2⟩
    | succ k' ih =>
      intro i ys news hi hp nd keep
      refine LCg.CompRest.succ ?_
      intro v I oI C oC Dd m₂ h tk' E' hv hC hxv F' N' off ne
      have D' : Ld h₀ L h ((I, oI) :: (C, oC) :: (Dd, LCg.lst ys) :: news) := ⟨N', nd3 nd off ne⟩
      have hlt : i < fs.length := by omega
      have hf : fs[i]? = some fs[i] := by simp [hlt]
      refine helt i v fs[i] I oI C oC Dd ys m₂ h tk' news E' _ hv hf hC hxv F' D' keep fun b h₂ tk₂ t u F₂ D₂ => ?_
      have D₂' : Ld h₀ L h₂ ((I, oI) :: (C, oC) :: (Dd, LCg.lst ys) :: (news ++ [(b, pairO (.int 7 t) (.str fs[i] u))])) := D₂
      have ndp := D₂'.nd
      simp only [List.map_cons, List.nodup_cons, List.mem_cons, not_or] at ndp
      have off₂ : LCg.Off3 I C Dd (news ++ [(b, pairO (.int 7 t) (.str fs[i] u))]) := LCg.Off3.of fun q hq => by
        have hm' : q.1 ∈ (news ++ [(b, pairO (.int 7 t) (.str fs[i] u))]).map (·.1) := List.mem_map_of_mem hq
        exact ⟨fun e => ndp.1.2.2 (e ▸ hm'), fun e => ndp.2.1.2 (e ▸ hm'), fun e => ndp.2.2.1 (e ▸ hm')⟩
      refine LCg.CompEnd.intro F₂ D₂'.N (news ++ [(b, pairO (.int 7 t) (.str fs[i] u))]) (fun _ h => h) off₂ (.inr ⟨_, List.mem_append_left _ (keep _ hax), rfl, _, rfl⟩) ?_
      have etk : fs.take (i + 1) = fs.take i ++ [fs[i]] := by rw [List.take_add_one, hf]; rfl
      refine ih (i + 1) _ _ (by omega) ⟨?_, fun j f hj => ?_⟩ ndp.2.2.2 fun z hz => List.mem_append_left _ (keep z hz)
      · rw [etk, List.length_append, List.length_append, hp.len]
        rfl
      · rw [etk] at hj
        have hyl : ys.length = i := by
          rw [hp.len, List.length_take]
          omega
        have htl : (fs.take i).length = i := by rw [List.length_take]; omega
        by_cases hji : j < i
        · rw [List.getElem?_append_left (by omega)] at hj
          obtain ⟨a', t', u', e1, e2⟩ := hp.at' j f hj
          exact ⟨a', t', u', by rw [List.getElem?_append_left (by omega)]; exact e1, List.mem_append_left _ e2⟩
        · have hje : j = i := by
            have := (List.getElem?_eq_some_iff.mp hj).1
            rw [List.length_append, htl] at this
            simp at this
            omega
          subst hje
          rw [List.getElem?_append_right (by omega), htl, Nat.sub_self] at hj
          have hfe : fs[j] = f := by simpa using hj
          refine ⟨b, t, u, ?_, List.mem_append_right _ ?_⟩
          · rw [List.getElem?_append_right (by omega), hyl, Nat.sub_self]
            rfl
          · rw [← hfe]
            exact .head _
  exact key its.size 0 [] l (by omega) ⟨by simp, fun j f h => by simp at h⟩ D.nd fun _ h => h
end
end
end Mine
end
-- part PF
section
open PySem PySem.W PySem.Calls PyProof.Rows PySem.SeqAt
set_option Elab.async false
set_option maxRecDepth 100000
namespace Mine
noncomputable section
theorem paired_at {α β : Type} {R : α → β → Prop} : ∀ {l : List α} {l' : List β} {j : Nat} {p : α} {f : β}, Paired R l l' → l[j]? = some p → l'[j]? = some f → R p f
  | [], _, _, _, _, _, h, _ => by simp at h
  | x :: l, _, 0, p, f, h, h1, h2 => by
    cases h with
    | cons a b =>
      simp at h1 h2
      subst h1; subst h2
      exact a
  | x :: l, _, j + 1, p, f, h, h1, h2 => by
    cases h with
    | cons a b => exact paired_at (j := j) b (by simpa using h1) (by simpa using h2)
section
variable {prog : Program} {w : World} {A : Around} {E : Value → Shared → Prop} {s : Shared} {h₀ : Heap} {L a : Addr} {m : Str → Option Value} {rest l : List (Addr × Obj)}
  {p : Program} {loose : List Str} {mg mb : Str → Option Value} {cn : Str} {cs : Scope} {cd : Value} {c : Cx} {d : Dy} {z : SD} {M Mf : Mc} {cl : List (Str × Addr)} {env : Env}

/-- x[key] in a comprehension's frame -/
theorem e_itemC {x key : Str} {C : Addr} {oC : Obj} {m₂ : Str → Option Value} {sc : Scope} {b : Addr} {o : Obj} {v : Value} {kvs : List (Str × Value)} {k : Nat} {p1 p2 p3 : Pos} {Q : Value → Shared → Prop} (D : Ld h₀ L s.heap l) (hm : (C, oC) ∈ l) (hC : LCg.NsObj oC m₂) (hx : m₂ x = some (.ref b)) (hb : (b, o) ∈ l) (ho : o.IsDictOf (strKind prog w) kvs) (hv : valueAt kvs key = some v)
    (h : ∀ tk, Q v { s with toks := tk }) (hk : (compEnvC sc cl C env).scope.kind = .function) (hy : (compEnvC sc cl C env).kindOf x = some .local) (hd : (x == ("__debug__" : Str)) = false := by decide) :
    wpAny (model prog w) A (eval (.Subscript (.Name x p1) (.Constant (.str key) k p2) p3) (compEnvC sc cl C env)) Q E s := by
  refine Subscript_ (LCgL.ld_own D.N hm hC hx (wpAny_Constant_str ?_) hk hy hd)
  have hT : s.heap.DictOf (strKind prog w) b kvs := Heap.dictOf_iff.mpr ⟨_, (D.N _ hb).1, ho⟩
  exact tail_any (ops := [.ref b, .str key _]) hT.mapOf.typeIs slot_dict_getitem.lookup (wpAny_getItem_of (strKind_is prog w key _) hT.mapOf hv (h _)) rfl

set_option maxHeartbeats 2000000 in
/-- [(token['type'], token['data']) for token in reader.tokenQueue] != [(tokenTypes['ParseError'], fault) for fault in faults] -/
theorem t_lists {fa : Addr} {fs : List Str} {sc sc' : Scope} {k1 k2 k3 k4 k5 : Nat} {p1 p2 p3 p4 p5 p6 p7 p8 p9 p10 p11 q1 q2 q3 q4 q5 q6 q7 q8 q9 : Pos} {whole : Sem Value} {Q : Bool → Shared → Prop} (hu' : A.units + 1 < cLine) (hA : A.handled = none)
    (F : Fr h₀ L s.heap m) (X : (Mine.hd.heap_1 w.params).In h₀) (T₀ : TopRead p loose mg mb h₀) (D : Ld h₀ L s.heap (led w.params c d ++ rest)) (hx : m "reader" = some (.ref c.r)) (hfm : m "faults" = some (.ref fa)) (hq : QOk prog w d.vals rest fs) (hf : Fl (led w.params c d ++ rest) fa fs) (hsz : fs.length ≤ 900)
    (h : ∀ h' tk l', Fr h₀ L h' m → Ld h₀ L h' l' → (∀ z ∈ led w.params c d ++ rest, z ∈ l') → Q false { s with heap := h', toks := tk })
    (hk : cs.kind = .function) (y1 : (envOf cn cs L a cd).kindOf "reader" = some .local) (y2 : (envOf cn cs L a cd).kindOf "faults" = some .local)
    (hclos : closureFor sc (envOf cn cs L a cd) = pure []) (hcell : ∀ z ∈ sc.names, z.2 ≠ .cell) (hkind : sc.kind = .function)
    (hnames : ∀ z ∈ sc.names, z.2 = .local → sc.names.lookup z.1 = some .local) (hxx : sc.names.lookup (Str.ofString "token") = some .local)
    (hfold : ∀ x, foldedSetIterable (.Attribute (.Name "reader" p8) "tokenQueue" p9) (envOf cn cs L a cd) x = pure x)
    (hl1 : ∀ C, (compEnvC sc [] C (envOf cn cs L a cd)).kindOf "token" = some .local)
    (hclos' : closureFor sc' (envOf cn cs L a cd) = pure []) (hcell' : ∀ z ∈ sc'.names, z.2 ≠ .cell) (hkind' : sc'.kind = .function)
    (hnames' : ∀ z ∈ sc'.names, z.2 = .local → sc'.names.lookup z.1 = some .local) (hxx' : sc'.names.lookup (Str.ofString "fault") = some .local)
    (hfold' : ∀ x, foldedSetIterable (.Name "faults" q7) (envOf cn cs L a cd) x = pure x)
    (hl2 : ∀ C, (compEnvC sc' [] C (envOf cn cs L a cd)).kindOf "fault" = some .local) (hl3 : ∀ C, (compEnvC sc' [] C (envOf cn cs L a cd)).kindOf "tokenTypes" = some .globalImplicit) :
    wpAny (model prog w) A (isTrue (.Compare (.ListComp (.Tuple [.Subscript (.Name "token" p1) (.Constant (.str "type") k1 p2) p3, .Subscript (.Name "token" p4) (.Constant (.str "data") k2 p5) p6] k3 p7) [⟨.Name "token" p10, .Attribute (.Name "reader" p8) "tokenQueue" p9, [], 0⟩] sc p11) [.NotEq]
      [.ListComp (.Tuple [.Subscript (.Name "tokenTypes" q1) (.Constant (.str "ParseError") k4 q2) q3, .Name "fault" q4] k5 q5) [⟨.Name "fault" q6, .Name "faults" q7, [], 0⟩] sc' q8] q9) (envOf cn cs L a cd) whole) Q E s := by
  obtain ⟨lq, hv, hmem, hpair⟩ := hq
  have hvl : d.vals.size = fs.length := by
    rw [hv]
    simp [hpair.length]
  obtain ⟨fv, kf, hfv, hfs⟩ := hf
  have hfl := strs_len hfs
  refine wpAny_isTrue_Compare1 (comp_core (cl := []) (fs := fs) hA F D m_q hvl (by omega) (fun E' Q' q => v_queue F X D hx (q _) hk y1) (fun j v f I oI C oC Dd ys m₂ h₁ tk₁ news E' Q' hj hjf hC hxv F₁ D₁ keep q => ?_) (fun D₁ h₁ tk₁ l₁ items₁ k₁ F₁ L₁ hD₁ P₁ keep₁ => ?_) hclos hcell hkind hnames hxx hfold)
  · have hpj : ∃ pj, lq[j]? = some pj ∧ v = .ref pj.1 := by
      rw [hv] at hj
      simp only [List.getElem?_toArray, List.getElem?_map] at hj
      cases hlj : lq[j]? with
      | none => rw [hlj] at hj; cases hj
      | some pj =>
        rw [hlj] at hj
        exact ⟨pj, rfl, (Option.some.inj hj).symm⟩
    obtain ⟨pj, hpj, rfl⟩ := hpj
    obtain ⟨kvs, t, u, ho, hty, hda⟩ := paired_at hpair hpj hjf
    have hm₁ : (pj.1, pj.2) ∈ (I, oI) :: (C, oC) :: (Dd, LCg.lst ys) :: news := .tail _ (.tail _ (.tail _ (keep _ (List.mem_append_right _ (hmem _ (List.mem_of_getElem? hpj))))))
    refine Tuple_ (wpAny_items_cons (e_itemC (s := { s with heap := h₁, toks := tk₁ }) D₁ (.tail _ (.head _)) hC hxv hm₁ ho hty (fun tk₂ => ?_) hkind (hl1 C)))
    refine wpAny_items_cons (e_itemC (s := { s with heap := h₁, toks := tk₂ }) D₁ (.tail _ (.head _)) hC hxv hm₁ ho hda (fun tk₃ => wpAny_items_nil ?_) hkind (hl1 C))
    refine newTup_ld (s := { s with heap := h₁, toks := tk₃ }) F₁ D₁ (fun b h₂ F₂ D₂ => ?_) (by show 2 ≤ sizeLine; decide)
    exact q b h₂ tk₃ t u F₂ D₂
  · refine comp_core (s := { s with heap := h₁, toks := tk₁ }) (cl := []) (fs := fs) hA F₁ L₁ (keep₁ _ hfv) (by rw [← Array.length_toList]; exact hfl) (by omega) (fun E' Q' q => ld F₁ hfm (q _) hk y2) (fun j v f I oI C oC Dd ys m₂ h₂ tk₂ news E' Q' hj hjf hC hxv F₂ D₂ keep q => ?_) (fun D₂ h₂ tk₂ l₂ items₂ k₂ F₂ L₂ hD₂ P₂ keep₂ => ?_) hclos' hcell' hkind' hnames' hxx' hfold'
    · have hj' : fv.toList[j]? = some v := by simpa using hj
      obtain ⟨f', u', hf', rfl⟩ := strs_get hfs hj'
      have hff : f' = f := Option.some.inj (hf'.symm.trans hjf)
      subst hff
      refine Tuple_ (wpAny_items_cons (Subscript_ (name_GC (s := { s with heap := h₂, toks := tk₂ }) F₂ X T₀ g_tt (wpAny_Constant_str ?_) hkind' (hl3 C) rfl)))
      refine topItem_K (s := { s with heap := h₂, toks := tk₂ + 1 }) (v := .int 7 547) F₂ X (by k_is) (by repeat (first | exact True.intro | refine And.intro ⟨_, _, rfl, rfl⟩ ?_)) (by k_is) ?_
      refine wpAny_items_cons (LCgL.ld_own D₂.N (.tail _ (.head _)) hC hxv (wpAny_items_nil ?_) hkind' (hl2 C))
      refine newTup_ld (s := { s with heap := h₂, toks := _ }) F₂ D₂ (fun b h₃ F₃ D₃ => ?_) (by show 2 ≤ sizeLine; decide)
      exact q b h₃ _ _ u' F₃ D₃
    · have H1 : ({ s with heap := h₂, toks := tk₂ } : Shared).heap.IsList D₁ items₁.toArray := News.isList L₂.N (keep₂ _ hD₁)
      have H2 : ({ s with heap := h₂, toks := tk₂ } : Shared).heap.IsList D₂ items₂.toArray := News.isList L₂.N hD₂
      have hu1 : (A.in1).units < cLine := hu'
      have hu : A.units < cLine := Nat.lt_of_succ_lt hu'
      have key : RcNeAt A { s with heap := h₂, toks := tk₂ } (.ref D₁) (.ref D₂) (!(List.range items₁.toArray.size).all fun _ => true) := RcNeAt.lists (e := fun _ => true) H1 H2 (by rw [List.size_toArray, List.size_toArray, P₁.len, P₂.len]) hu fun j h1 h2 => by
        have hj : j < fs.length := by
          rw [← P₁.len]
          simpa using h1
        have hjf : fs[j]? = some fs[j] := by simp [hj]
        obtain ⟨a₁, t₁, u₁, e₁, m₁⟩ := P₁.at' j _ hjf
        obtain ⟨a₂, t₂, u₂, e₂, m₂⟩ := P₂.at' j _ hjf
        have i1 : items₁.toArray[j] = .ref a₁ := by
          have := (List.getElem?_eq_some_iff.mp e₁).2
          simpa using this
        have i2 : items₂.toArray[j] = .ref a₂ := by
          have := (List.getElem?_eq_some_iff.mp e₂).2
          simpa using this
        rw [i1, i2]
        by_cases haa : a₁ = a₂
        · rw [haa]
          exact EqAt.same _
        · refine EqAt.of_refs haa ?_
          have G1 : Heap.IsTuple ({ s with heap := h₂, toks := tk₂ } : Shared).heap a₁ ([.int 7 t₁, .str fs[j] u₁] : List Value).toArray := News.isTup L₂.N (keep₂ _ m₁)
          have G2 : Heap.IsTuple ({ s with heap := h₂, toks := tk₂ } : Shared).heap a₂ ([.int 7 t₂, .str fs[j] u₂] : List Value).toArray := News.isTup L₂.N m₂
          exact RcAt.tuples (e := fun _ => true) G1 G2 hu1 fun i i1 i2 => by
            have hi : i < 2 := i1
            match i, hi with
            | 0, _ => exact eqAt_int 7 t₁ t₂
            | 1, _ => exact eqAt_str _ u₁ u₂
      have e : (!(List.range items₁.toArray.size).all fun _ => true) = false := by simp
      rw [e] at key
      refine (show wpAny (model prog w) A (compareOp .NotEq (.ref D₁) (.ref D₂)) _ E _ from key prog w E _ (wpAny_truthy_bool ?_))
      exact h _ _ _ F₂ L₂ fun z hz => keep₂ _ (keep₁ _ hz)
end
end
end Mine
end
-- part PG
section
open PySem PySem.W PySem.Calls PyProof.Rows PySem.SeqAt
set_option Elab.async false
set_option maxRecDepth 100000
namespace Mine
noncomputable section
theorem cs_until {P : Params} : findIn (Mine.hd.heap_1 P) (.ref 166) "charsUntil" = some (some (.ref 156)) := by k_is
theorem fn_until {P : Params} : isFn (Mine.hd.heap_1 P) (.ref 156) = true := by k_is
theorem kp_until {P : Params} : keepIn (Mine.hd.heap_1 P) (.ref 156) = true := by k_is
theorem sE_until (P T d) : getL "charsUntil" (sE P T d) = some none := by kernel_rfl
theorem fn_data {P : Params} : fnIn (Mine.hd.heap_1 P) 304 = true := by k_is
section
variable {prog : Program} {w : World} {A : Around} {E : Value → Shared → Prop} {s : Shared} {h₀ : Heap} {L a : Addr} {m : Str → Option Value} {rest l : List (Addr × Obj)}
  {p : Program} {loose : List Str} {mg mb : Str → Option Value} {cn : Str} {cs : Scope} {cd : Value} {b : Bx} {d : SD} {n : Nat} {u : Tok} {k : Nat} {r dr q mu : Addr} {T : Nat → Tok} {lf cur : Value} {nr : Nat}

/-- reader.state(), the state that of the data -/
theorem e_stateR {x : Str} {p1 p2 p3 : Pos} {Q : Value → Shared → Prop} (F : Fr h₀ L s.heap m) (X : (Mine.hd.heap_1 w.params).In h₀) (D : Ld h₀ L s.heap l) (hx : m x = some (.ref r)) (Rb : RB w.params l r dr b.st q T lf (.ref mu) cur nr)
    (hm : (mu, methodObj (.ref 304) (.ref r)) ∈ l)
    (h : codeAny (model prog w) A (.call (.ref 304) ⟨[.ref r], []⟩) (fun r s' => match r with | .ok (.ret v) => Q v s' | .ok _ => False | .error e => E e s') { s with toks := s.toks + 1 })
    (hk : cs.kind = .function := by rfl) (hy : (envOf cn cs L a cd).kindOf x = some .local := by rfl) (hp : (p2.endLine == p3.line) = true := by rfl) (hd : (x == ("__debug__" : Str)) = false := by decide) :
    wpAny (model prog w) A (eval (.Call (.Attribute (.Name x p1) "state" p2) [] [] p3) (envOf cn cs L a cd)) Q E s := by
  refine MCallN (fun pl => ld F hx ?_ hk hy hd) rfl hp
  refine method_usual (X.keeps F.keep) (InstAt.of_news D.N Rb.h1 Rb.h2) cr_getf cr_geta cr_state rfl ?_
  refine get_own F X (InstAt.of_news D.N Rb.h1 Rb.h2) (cr_get _) cr_dict cr_state no_none (v := .ref mu) (rE_state _ _ _ _ _ _) rfl ?_
  refine callWith_M0 (methP D.N hm (X.keeps F.keep)) fn_data ?_
  exact call_meth D.N hm h

set_option maxHeartbeats 2000000 in
/-- return reader.stream.charsUntil(()) == ('\n' if behind == '\r\n' else behind) and reader.state() is False -/
theorem op_end {bh : Str} {tb : Tok} {o k1 k2 k3 k4 : Nat} {p1 p2 p3 p4 p5 p6 p7 p8 p9 p10 p11 p12 q1 q2 q3 q4 q5 q6 q7 : Pos} {Q : Flow → Shared → Prop} (hA : Room A 6) (F : Fr h₀ L s.heap m) (X : (Mine.hd.heap_1 w.params).In h₀) (T₀ : TopRead p loose mg mb h₀) (D : Ld h₀ L s.heap l)
    (hx : m "reader" = some (.ref r)) (hbh : m "behind" = some (.str bh tb)) (Rb : RB w.params l r dr b.st q T lf (.ref mu) cur nr) (hm : (mu, methodObj (.ref 304) (.ref r)) ∈ l) (B : SB w.params l b d n b.x.length u k) (hxl : b.x.length ≤ 9000)
    (hoff : d.off = (o : Int)) (ho : o ≤ d.chunk.length) (hsz : d.size = d.chunk.length) (hmax : d.chunk.length ≤ 9000) (hbn : (if bh = crlf then one 10 else bh) = ⟨(d.chunk.cps.toList.drop o).toArray⟩)
    (h : ∀ h' tk, Fr h₀ L h' m → Q (.ret (.bool true)) { s with heap := h', toks := tk })
    (hk : cs.kind = .function) (y1 : (envOf cn cs L a cd).kindOf "reader" = some .local) (y2 : (envOf cn cs L a cd).kindOf "behind" = some .local) (hp : (q2.endLine == q3.line) = true) :
    wpAny (model prog w) A (exec (.Return (some (.BoolOp .And [.Compare (.Call (.Attribute (.Attribute (.Name "reader" p1) "stream" p2) "charsUntil" p3) [.Tuple [] k1 p4] [] p5) [.Eq]
      [.IfExp (.Compare (.Name "behind" p6) [.Eq] [.Constant (.str "\x0d\n") k2 p7] p8) (.Constant (.str "\n") k3 p9) (.Name "behind" p10) p11] p12,
      .Compare (.Call (.Attribute (.Name "reader" q1) "state" q2) [] [] q3) [.Is] [.Constant (.bool false) k4 q4] q5] q6)) q7) (envOf cn cs L a cd)) Q E s := by
  refine wpAny_Return_some (BoolOp_and (wpAny_Compare1 ?_))
  refine MCallA (fun pl pq => fld F X D.N hx Rb.h1 Rb.h2 (cr_get _) cr_dict cr_stream (rE_stream _ _ _ _ _ _) rfl ?_ hk y1) rfl
  refine method_inst F X (InstAt.of_news D.N B.S.h1 B.S.h2) (cs_get _) cs_until fn_until (sE_until _ _ _) ?_
  refine callWith_k1 (K := Mine.hd.heap_1 w.params) kp_until (Tuple_ (wpAny_items_nil ?_))
  refine newTup_ld (s := { s with toks := s.toks + 1 }) F D (fun tp h₁ F₁ D₁ => ⟨X.keeps F₁.keep, wpAny_call ?_⟩) (by show 0 ≤ sizeLine; decide)
  refine until_in (s := { s with heap := h₁, toks := s.toks + 1 }) (hA.le (by decide)) F₁ D₁ X T₀ hxl (B.mono fun z hz => List.mem_append_left _ hz) (List.mem_append_right _ (.head _)) hoff ho hsz hmax fun t d' v h₂ tk₂ l₂ F₂ D₂ B₂ hz₂ keep₂ => ?_
  refine wpAny_mono (Q := fun v s' => ∃ t' tk', v = .str (if bh = crlf then one 10 else bh) t' ∧ s' = { s with heap := h₂, toks := tk' }) ?_ (fun v s' hv => ?_) (fun _ _ e => e)
  · refine wpAny_IfExp (wpAny_isTrue_Compare1 (ld F₂ hbh (wpAny_Constant_str (eq_str (wpAny_truthy_bool ?_))) hk y2))
    rw [crlf_lit]
    by_cases hq : bh = crlf
    · rw [if_pos hq]
      refine ite_t (beq_iff_eq.mpr hq) ?_
      exact wpAny_Constant_str ⟨_, _, rfl, rfl⟩
    · rw [if_neg hq]
      refine ite_f (beq_eq_false_iff_ne.mpr hq) ?_
      exact ld F₂ hbh ⟨_, _, rfl, rfl⟩ hk y2
  obtain ⟨t', tk', rfl, rfl⟩ := hv
  rw [hbn]
  refine eq_str (wpAny_truthy_bool ?_)
  refine ite_t (beq_self_eq_true _) ?_
  refine BoolOp_one (wpAny_Compare1 ?_)
  have r1 : r ≠ b.sd := nodup_ne D.nd Rb.h1 B.S.h2 inst_ne_dict
  have r2 : r ≠ b.td := nodup_ne D.nd Rb.h1 B.h2 inst_ne_dict
  have r3 : dr ≠ b.sd := nodup_ne D.nd Rb.h2 B.S.h2 rE_ne_sE
  have r4 : dr ≠ b.td := nodup_ne D.nd Rb.h2 B.h2 rE_ne_tE
  have r5 : mu ≠ b.sd := nodup_ne D.nd hm B.S.h2 meth_ne_dict
  have r6 : mu ≠ b.td := nodup_ne D.nd hm B.h2 meth_ne_dict
  have up : ∀ z ∈ l, z.1 ≠ b.sd → z.1 ≠ b.td → z ∈ l₂ := fun z hz n1 n2 => keep₂ z (List.mem_append_left _ hz) n1 n2
  have Rb₂ : RB w.params l₂ r dr b.st q T lf (.ref mu) cur nr := ⟨up _ Rb.h1 r1 r2, up _ Rb.h2 r3 r4⟩
  refine e_stateR (s := { s with heap := h₂, toks := tk' }) F₂ X D₂ hx Rb₂ (up _ hm r5 r6) ?_ hk y1 hp
  refine data_eof (s := { s with heap := h₂, toks := tk' + 1 }) hA F₂ D₂ X T₀ (by omega) B₂ hz₂ Rb₂ fun h₃ tk₃ F₃ => ?_
  refine wpAny_Constant_bool (is_bool ?_)
  exact h _ _ F₃
end
end
end Mine
end
-- part PH
section
open PySem PySem.W PySem.Calls PyProof.Rows PySem.SeqAt
set_option Elab.async false
set_option maxRecDepth 100000
namespace Mine
noncomputable section
theorem g_enum {P : Params} : nsIn (Mine.hd.heap_1 P) mainGlobals "enumerate" = some none := by k_is
section
variable {prog : Program} {w : World} {A : Around} {E : Value → Shared → Prop} {s : Shared} {h₀ : Heap} {L a : Addr} {m : Str → Option Value} {rest l : List (Addr × Obj)}
  {p : Program} {loose : List Str} {mg mb : Str → Option Value} {cn : Str} {cs : Scope} {cd : Value}

/-- the comprehension's turns over an enumeration: numbers come, the ledger stays -/
theorem enum_turns {env : Env} {elt iter : Expr} {sc : Scope} {pi pn tp pos : Pos} {kk : Nat} {ax : Addr} {its : Array Value} {s₂ : Shared} {eA it : Addr} {RR : Value → Addr → Result → Shared → Prop}
    (hh : A.handled = none) (hsz : its.size ≤ 100) (hits : ∀ (j : Nat) (v : Value), its[j]? = some v → ∃ n t, v = Value.int n t)
    (hei : eA ≠ it) (hle : ax ≠ eA) (hli : ax ≠ it) (he : IsEnum s₂.heap eA it 0 .none) (hit : s₂.heap.IsListIter it ax 0) (hl : s₂.heap.IsList ax its)
    (F : Fr h₀ L s₂.heap m) (D : Ld h₀ L s₂.heap l) (hle' : ∀ z ∈ l, z.1 ≠ eA) (hli' : ∀ z ∈ l, z.1 ≠ it) (hLe : L ≠ eA) (hLi : L ≠ it) (he0 : h₀.get? eA = none) (hi0 : h₀.get? it = none)
    (hcell : ∀ y ∈ sc.names, y.2 ≠ .cell) (hkind : sc.kind = .function) (hxi : sc.names.lookup (Str.ofString "i") = some .local) (hxn : sc.names.lookup (Str.ofString "n") = some .local)
    (helt : ∀ (j : Nat) (n : Int) (t t' : Tok) (C : Addr) (m₂ : Str → Option Value) (h : Heap) (tk : Nat) (E' : Value → Shared → Prop) (Q' : Value → Shared → Prop), j < 100 → h.Ns C m₂ → m₂ "i" = some (.int j t) → m₂ "n" = some (.int n t') →
      (∀ y u tk', 0 ≤ y → y < 1000003 → Q' (.int y u) { s₂ with heap := h, toks := tk' }) → wpAny (model prog w) A (eval elt (compEnvC sc [] C env)) Q' E' { s₂ with heap := h, toks := tk })
    (hRR : ∀ Dd C h tk m' ys, Fr h₀ L h m → News h₀ L h ((Dd, LCg.lst ys) :: l) → (∀ z ∈ l, z.1 ≠ Dd) → h.Ns C m' → h₀.get? C = none → h₀.get? Dd = none → C ≠ L → Dd ≠ L → C ≠ Dd → (∀ z ∈ l, z.1 ≠ C) → ys.length ≤ 100 → TapeV ys.toArray → RR (.ref Dd) C (.ok .next) { s₂ with heap := h, toks := tk }) :
    wpAny (model prog w) A (newList []) (fun acc s₃ => wpAny (model prog w) A (newFunctionEnv sc env.globals [] [] env.qual none .none (some env)) (fun cenv s₄ =>
      codeAny (model prog w) A (.compStart (.ListComp elt [⟨.Tuple [.Name "i" pi, .Name "n" pn] kk tp, iter, [], 0⟩] sc pos) 0 (.ref eA) acc { cenv with scope := relabel sc env }) (RR acc cenv.locals) s₄) E s₃) E s₂ := by
  refine wpAny_newObj_type (wpAny_newFunctionEnv hcell (by intro y hy; simp at hy) (fun h₁ hns₁ hsb₁ => ?_) hkind)
  dsimp only at hns₁ hsb₁ ⊢
  generalize hH2 : s₂.heap.push { cls := .type "list", dict := none, data := .seq ([] : List Value).toArray } = H2 at hns₁ hsb₁ ⊢
  have hC : H2.objs.size = s₂.heap.objs.size + 1 := by rw [← hH2, Heap.size_push]
  have hDC : s₂.heap.objs.size ≠ H2.objs.size := by rw [hC]; exact Nat.ne_of_lt (Nat.lt_succ_self _)
  have below : ∀ b, b < s₂.heap.objs.size → b ≠ H2.objs.size ∧ b ≠ s₂.heap.objs.size := fun b hb => ⟨by rw [hC]; exact Nat.ne_of_lt (Nat.lt_succ_of_lt hb), Nat.ne_of_lt hb⟩
  have old : ∀ b o, s₂.heap.get? b = some o → h₁.get? b = some o := fun b o e => hsb₁.extBut b o (below b (Heap.lt_size e)).1 (Heap.get?_push_of_some _ (hH2 ▸ Heap.get?_push_of_some _ e))
  have hacc : h₁.get? s₂.heap.objs.size = some (LCg.lst []) := hsb₁.extBut _ _ hDC (Heap.get?_push_of_some _ (hH2 ▸ Heap.get?_push_size _ rfl))
  have fresh₀ : ∀ a, s₂.heap.objs.size ≤ a → h₀.get? a = none := fun a ha => by
    cases e : h₀.get? a with
    | none => rfl
    | some o' => exact absurd (Heap.lt_size (F.keep a o' e)) (Nat.not_lt.mpr ha)
  have hD₀ : h₀.get? s₂.heap.objs.size = none := fresh₀ _ (Nat.le_refl _)
  have hC₀ : h₀.get? H2.objs.size = none := fresh₀ _ (by rw [hC]; exact Nat.le_succ _)
  have hDL : s₂.heap.objs.size ≠ L := Ne.symm (below L F.ns.lt).2
  have hCL : H2.objs.size ≠ L := Ne.symm (below L F.ns.lt).1
  have elt' : eA < s₂.heap.objs.size := Heap.lt_size he
  have ilt : it < s₂.heap.objs.size := by obtain ⟨o, e, _⟩ := hit; exact Heap.lt_size e
  have alt : ax < s₂.heap.objs.size := by obtain ⟨o, e, _⟩ := hl; exact Heap.lt_size e
  have offD : ∀ z ∈ l, z.1 ≠ s₂.heap.objs.size := fun z hz => (below _ (Heap.lt_size (D.N z hz).1)).2
  have offC : ∀ z ∈ l, z.1 ≠ H2.objs.size := fun z hz => (below _ (Heap.lt_size (D.N z hz).1)).1
  have W := WalksT.enumerate (prog := prog) (w := w) hh eA it ax hei hle hli its
  have loop : ∀ s₃ : Shared, s₃ = { s₂ with heap := h₁, toks := s₂.toks + ([] : List (Str × Value)).length } →
      codeAny (model prog w) A (.compLoop (.ListComp elt [⟨.Tuple [.Name "i" pi, .Name "n" pn] kk tp, iter, [], 0⟩] sc pos) 0 (.ref eA) (.ref s₂.heap.objs.size) (compEnvC sc [] H2.objs.size env)) (RR (.ref s₂.heap.objs.size) H2.objs.size) s₃ := by
    rintro s₃ rfl
    refine kcp_loop (fun k s' => ∃ h' tk i ys m', s' = { s₂ with heap := h', toks := tk } ∧ i ≤ its.size ∧ k = its.size + 1 - i ∧ ys.length = i ∧ TapeV ys.toArray ∧ (∃ old, IsEnum h' eA it i old) ∧ h'.IsListIter it ax i ∧ h'.IsList ax its ∧ Fr h₀ L h' m ∧ h'.Ns H2.objs.size m' ∧ News h₀ L h' ((s₂.heap.objs.size, LCg.lst ys) :: l)) ?_ (its.size + 1)
      ⟨h₁, _, 0, [], _, rfl, Nat.zero_le _, rfl, rfl, (fun v hv => by simp at hv), ⟨_, old _ _ he⟩, ?_, ?_, F.keeps old, hns₁, fun q hq => ?_⟩
    · rintro k s' ⟨h', tk, i, ys, m', rfl, hi, rfl, hyl, htv, ⟨old', he'⟩, hit', hl', F', hn', N'⟩
      by_cases hlt : i < its.size
      · refine W.item i _ _ _ hlt ⟨⟨old', he'⟩, hit', hl'⟩ fun T vals h₂ tk₂ hP hT htup hMid hk₂ => ?_
        refine W.go _ _ _ i T _ _ _ hMid fun h₃ hst₃ hk₃ => ?_
        have hTw := W.apart i T _ hMid
        obtain ⟨t, x, hx, rfl⟩ := hP
        obtain ⟨nn, tn, rfl⟩ := hits i x hx
        have htup₃ : h₃.IsTuple T #[.int i t, .int nn tn] := by
          obtain ⟨o, e, r⟩ := htup
          exact ⟨o, hk₃ _ _ hTw e, r⟩
        have hin : ∀ b, b ≠ eA → b ≠ it → b ∉ [eA, it] := fun b h1 h2 hm => by
          rcases List.mem_cons.mp hm with e | hm
          · exact h1 e
          · exact h2 (List.mem_singleton.mp hm)
        have up₃ : ∀ b o, b ≠ eA → b ≠ it → h'.get? b = some o → h₃.get? b = some o := fun b o h1 h2 e => hk₃ b o (hin b h1 h2) (hk₂ b o (hin b h1 h2) e)
        have cE : H2.objs.size ≠ eA := Ne.symm (below _ elt').1
        have cI : H2.objs.size ≠ it := Ne.symm (below _ ilt).1
        refine kcp_assign (env := compEnvC sc [] H2.objs.size env) hh htup₃ (lookup_relabel_local hxi) (lookup_relabel_local hxn) (by simp [compEnvC, relabel, hkind]) (hn'.at' fun o e => up₃ _ o cE cI e) fun h₄ tk₄ hn₄ hs₄ => ?_
        have up : ∀ b o, b ≠ eA → b ≠ it → b ≠ H2.objs.size → h'.get? b = some o → h₄.get? b = some o := fun b o h1 h2 h3 e => hs₄ b o h3 (up₃ b o h1 h2 e)
        refine helt i nn t tn H2.objs.size _ h₄ tk₄ _ _ (by omega) hn₄ ((if_neg (by decide)).trans (if_pos rfl)) (if_pos rfl) fun y u tk₅ y0 y1 => ?_
        have zD : h₄.get? s₂.heap.objs.size = some (LCg.lst ys) := up _ _ (Ne.symm (below _ elt').2) (Ne.symm (below _ ilt).2) hDC (N' _ (.head _)).1
        refine append_at (s := { s₂ with heap := h₄, toks := tk₅ }) (hsz := by show ys.toArray.size ≤ sizeLine; rw [List.size_toArray, hyl, sizeLine_eq]; omega) zD fun h₆ hs₆ hD₆ => ?_
        obtain ⟨⟨old₃, he₃⟩, hit₃, hl₃⟩ := hst₃
        have F₄ : Fr h₀ L h₄ m := ⟨F'.ns.at' fun o e => up _ o hLe hLi (Ne.symm hCL) e, fun b o e => up b o (fun q => by rw [q, he0] at e; cases e) (fun q => by rw [q, hi0] at e; cases e) (fun q => by rw [q, hC₀] at e; cases e) (F'.keep b o e), F'.above⟩
        refine ⟨its.size + 1 - (i + 1), by omega, h₆, tk₅, i + 1, ys ++ [.int y u], _, rfl, hlt, rfl, by rw [List.length_append, List.length_singleton, hyl], ?_, ⟨old₃, hs₆.extBut _ _ (below _ elt').2 (hs₄ _ _ (Ne.symm cE) he₃)⟩, ?_, ?_, F₄.change hs₆ hDL hD₀, hn₄.sameBut hs₆ (Ne.symm hDC), fun q hq => ?_⟩
        · intro v hv
          have hv' : v ∈ ys ++ [.int y u] := by simpa using hv
          rcases List.mem_append.mp hv' with q | q
          · exact htv v (by simpa using q)
          · rw [List.mem_singleton.mp q]
            exact ⟨y, u, rfl, y0, y1⟩
        · obtain ⟨o, e, r⟩ := hit₃
          exact ⟨o, hs₆.extBut _ _ (below _ ilt).2 (hs₄ _ _ (Ne.symm cI) e), r⟩
        · obtain ⟨o, e, r⟩ := hl₃
          exact ⟨o, hs₆.extBut _ _ (below _ alt).2 (hs₄ _ _ (below _ alt).1 e), r⟩
        · rcases List.mem_cons.mp hq with rfl | hq
          · exact ⟨hD₆.trans (congrArg some (LCg.lst_snoc ys _)), hDL, hD₀⟩
          · have z := N' q (.tail _ hq)
            exact ⟨hs₆.extBut _ _ (offD q hq) (up _ _ (hle' q hq) (hli' q hq) (offC q hq) z.1), z.2⟩
      · obtain rfl : i = its.size := Nat.le_antisymm hi (Nat.not_lt.mp hlt)
        refine W.done _ _ _ ⟨⟨old', he'⟩, hit', hl'⟩ fun h₂ tk₂ hk₂ => ?_
        have hin : ∀ b, b ≠ eA → b ≠ it → b ∉ [eA, it] := fun b h1 h2 hm => by
          rcases List.mem_cons.mp hm with e | hm
          · exact h1 e
          · exact h2 (List.mem_singleton.mp hm)
        have up : ∀ b o, b ≠ eA → b ≠ it → h'.get? b = some o → h₂.get? b = some o := fun b o h1 h2 e => hk₂ b o (hin b h1 h2) e
        refine hRR _ _ h₂ tk₂ _ ys ⟨F'.ns.at' fun o e => up _ o hLe hLi e, fun b o e => up b o (fun q => by rw [q, he0] at e; cases e) (fun q => by rw [q, hi0] at e; cases e) (F'.keep b o e), F'.above⟩ (fun q hq => ?_) offD (hn'.at' fun o e => up _ o (Ne.symm (below _ elt').1) (Ne.symm (below _ ilt).1) e) hC₀ hD₀ hCL hDL (Ne.symm hDC) offC (by omega) htv
        have z := N' q hq
        refine ⟨up _ _ ?_ ?_ z.1, z.2⟩
        · rcases List.mem_cons.mp hq with rfl | hq
          · exact Ne.symm (below _ elt').2
          · exact hle' q hq
        · rcases List.mem_cons.mp hq with rfl | hq
          · exact Ne.symm (below _ ilt).2
          · exact hli' q hq
    · obtain ⟨o, e, r⟩ := hit
      exact ⟨o, old _ _ e, r⟩
    · obtain ⟨o, e, r⟩ := hl
      exact ⟨o, old _ _ e, r⟩
    · rcases List.mem_cons.mp hq with rfl | hq
      · exact ⟨hacc, hDL, hD₀⟩
      · exact ⟨old _ _ (D.N q hq).1, (D.N q hq).2⟩
  exact codeAny_compStart_list (loop _ rfl) (W.self 0 _ _ _ ⟨⟨_, old _ _ he⟩, (by obtain ⟨o, e, r⟩ := hit; exact ⟨o, old _ _ e, r⟩), (by obtain ⟨o, e, r⟩ := hl; exact ⟨o, old _ _ e, r⟩)⟩ (loop _ rfl))
end
end
end Mine
end
-- part PI
section
open PySem PySem.W PySem.Calls PyProof.Rows PySem.SeqAt
set_option Elab.async false
set_option maxRecDepth 100000
namespace Mine
noncomputable section
section
variable {prog : Program} {w : World} {A : Around} {E : Value → Shared → Prop} {s : Shared} {h₀ : Heap} {L a : Addr} {m : Str → Option Value} {rest l : List (Addr × Obj)}
  {p : Program} {loose : List Str} {mg mb : Str → Option Value} {cn : Str} {cs : Scope} {cd : Value}

set_option maxHeartbeats 1000000 in
/-- tape = [(n * 101 + 7 * i) % 1000003 for i, n in enumerate(script[:14])] -/
theorem op_tape {sA : Addr} {vs : List Value} {ns : List Int} {sc : Scope} {k1 k2 k3 k4 kk : Nat} {p1 p2 p3 p4 p5 p6 p7 p8 p9 p10 p11 p12 p13 p14 p15 p16 p17 p18 p19 p20 p21 : Pos} {Q : Flow → Shared → Prop} (hh : A.handled = none) (F : Fr h₀ L s.heap m) (D : Ld h₀ L s.heap l) (X : (Mine.hd.heap_1 w.params).In h₀) (T₀ : TopRead p loose mg mb h₀)
    (hm : m "script" = some (.ref sA)) (hl : h₀.IsList sA vs.toArray) (hI : IntsAre vs ns) (hvs : vs.length ≤ 1000)
    (hQ : ∀ tp h' tk l', Fr h₀ L h' (fun z => if z = "tape" then some (.ref tp) else m z) → Ld h₀ L h' l' → Tp l' tp → (∀ z ∈ l, z ∈ l') → Q .next { s with heap := h', toks := tk })
    (hsw : swapsWith (.ListComp (.BinOp (.BinOp (.BinOp (.Name "n" p1) .Mult (.Constant (.int 101) k1 p2) p3) .Add (.BinOp (.Constant (.int 7) k2 p4) .Mult (.Name "i" p5) p6) p7) .Mod (.Constant (.int 1000003) k3 p8) p9)
      [⟨.Tuple [.Name "i" p10, .Name "n" p11] kk p12, .Call (.Name "enumerate" p13) [.Subscript (.Name "script" p14) (.Slice none (some (.Constant (.int 14) k4 p15)) none p16) p17] [] p18, [], 0⟩] sc p19) (some (.Name "tape" p20)) p21.line (envOf cn cs L a cd) = pure true)
    (hclos : closureFor sc (envOf cn cs L a cd) = pure []) (hcell : ∀ y ∈ sc.names, y.2 ≠ .cell) (hkind : sc.kind = .function) (hnames : ∀ z ∈ sc.names, z.2 = .local → sc.names.lookup z.1 = some .local) (hxi : sc.names.lookup (Str.ofString "i") = some .local) (hxn : sc.names.lookup (Str.ofString "n") = some .local)
    (hk : cs.kind = .function) (y1 : (envOf cn cs L a cd).kindOf "script" = some .local) (y2 : (envOf cn cs L a cd).kindOf "tape" = some .local) (y3 : (envOf cn cs L a cd).kindOf "enumerate" = some .globalImplicit)
    (z1 : ∀ C, (compEnvC sc [] C (envOf cn cs L a cd)).kindOf "i" = some .local) (z2 : ∀ C, (compEnvC sc [] C (envOf cn cs L a cd)).kindOf "n" = some .local)
    (hfold : ∀ x, foldedSetIterable (.Call (.Name "enumerate" p13) [.Subscript (.Name "script" p14) (.Slice none (some (.Constant (.int 14) k4 p15)) none p16) p17] [] p18) (envOf cn cs L a cd) x = pure x) :
    wpAny (model prog w) A (exec (.Assign [.Name "tape" p20] (.ListComp (.BinOp (.BinOp (.BinOp (.Name "n" p1) .Mult (.Constant (.int 101) k1 p2) p3) .Add (.BinOp (.Constant (.int 7) k2 p4) .Mult (.Name "i" p5) p6) p7) .Mod (.Constant (.int 1000003) k3 p8) p9)
      [⟨.Tuple [.Name "i" p10, .Name "n" p11] kk p12, .Call (.Name "enumerate" p13) [.Subscript (.Name "script" p14) (.Slice none (some (.Constant (.int 14) k4 p15)) none p16) p17] [] p18, [], 0⟩] sc p19) p21) (envOf cn cs L a cd)) Q E s := by
  rw [exec_Assign_Name_used _ _ _ _ hsw]
  refine wpAny_bind (wpAny_standAt (wpAny_bind ?_))
  show wpAny _ A (do let _ ← comprehension (.ListComp _ [⟨.Tuple [.Name "i" p10, .Name "n" p11] kk p12, _, [], 0⟩] sc p19) sc (envOf cn cs L a cd) _ (newList []) false (eval _ (envOf cn cs L a cd)) (some (assign (.Name "tape" p20) (envOf cn cs L a cd)))) _ _ s
  refine wpAny_bind (wpAny_mono (wpAny_comprehension_free (use := some (assign (.Name "tape" p20) (envOf cn cs L a cd))) (Q := fun _ s' => Q .next s') rfl hfold hclos hkind hnames ?_) (fun _ s' hq => wpAny_pure (wpAny_pure hq)) fun _ _ e => e)
  refine Call_ (name_B F X T₀ g_enum boot_enumerate (by decide) ?_ hk y3)
  refine PyProof.Rows.callWith_type rfl (evalArgs_plain (spliced_cons ?_))
  refine Subscript_ (ld F hm ?_ hk y1)
  refine wpAny_Slice (evalPart_none_step (evalPart_some_step (wpAny_Constant_int (evalPart_none_step ?_))))
  have hls : s.heap.IsList sA vs.toArray := hl.at fun o e => F.keep _ o e
  refine kmk_slice (s := { s with toks := _ }) F D.N hls .none (.int 14 _) (fun ax h₁ F₁ N₁ lt₁ => ?_) (by with_unfolding_all rfl) (by intro _; with_unfolding_all rfl) (by rw [sizeLine_eq, List.size_toArray]; omega)
  refine spliced_nil ?_
  have hl₁ : h₁.IsList ax (slicePick vs.toArray none (some 14) none) := News.isList N₁ (.head _)
  have alt : ax < h₁.objs.size := by obtain ⟨o, e, _⟩ := hl₁; exact Heap.lt_size e
  refine call_enumerate_list hl₁ fun h₂ he hit hsz₂ hk₂ => ?_
  dsimp only at he hit hsz₂ hk₂ ⊢
  have hei : h₁.objs.size + 1 ≠ h₁.objs.size := Nat.succ_ne_self _
  have hle : ax ≠ h₁.objs.size + 1 := Nat.ne_of_lt (Nat.lt_succ_of_lt alt)
  have hli : ax ≠ h₁.objs.size := Nat.ne_of_lt alt
  have hl₂ : h₂.IsList ax (slicePick vs.toArray none (some 14) none) := by
    obtain ⟨o, e, r⟩ := hl₁
    exact ⟨o, hk₂ _ _ e, r⟩
  have F₂ : Fr h₀ L h₂ m := F₁.keeps hk₂
  have nd₁ : (((ax, PySem.W.listOf (slicePick vs.toArray none (some 14) none) 0) :: l).map (·.1)).Nodup := List.nodup_cons.mpr ⟨fun q => by
    obtain ⟨p, hp, e⟩ := List.mem_map.mp q
    have := lt₁ p hp
    rw [e] at this
    exact absurd this (Nat.lt_irrefl _), D.nd⟩
  have D₂ : Ld h₀ L h₂ ((ax, PySem.W.listOf (slicePick vs.toArray none (some 14) none) 0) :: l) := ⟨N₁.grown hk₂, nd₁⟩
  have low : ∀ z ∈ (ax, PySem.W.listOf (slicePick vs.toArray none (some 14) none) 0) :: l, z.1 < h₁.objs.size := fun z hz => Heap.lt_size (N₁ z hz).1
  have none₀ : ∀ b, h₁.objs.size ≤ b → h₀.get? b = none := fun b hb => by
    cases e : h₀.get? b with
    | none => rfl
    | some o => exact absurd (Heap.lt_size (F₁.keep b o e)) (Nat.not_lt.mpr hb)
  have hvl : vs.length = ns.length := hI.length
  have hpick : slicePick vs.toArray none (some 14) none = (vs.take 14).toArray := by
    have := slicePick_upto' vs.toArray 14
    simpa using this
  refine (WalksT.enumerate (prog := prog) (w := w) hh (h₁.objs.size + 1) h₁.objs.size ax hei hle hli _).self 0 _ _ _ ⟨⟨_, he⟩, hit, hl₂⟩ ?_
  refine enum_turns (m := m) hh (by rw [hpick]; simp; omega) (fun j v hv => ?_) hei hle hli he hit hl₂ F₂ D₂ (fun z hz => Nat.ne_of_lt (Nat.lt_succ_of_lt (low z hz))) (fun z hz => Nat.ne_of_lt (low z hz)) (Nat.ne_of_lt (Nat.lt_succ_of_lt F₁.ns.lt)) (Nat.ne_of_lt F₁.ns.lt) (none₀ _ (Nat.le_succ _)) (none₀ _ (Nat.le_refl _)) hcell hkind hxi hxn
    (fun j n t t' C m₂ h tk E' Q' hj hn e1 e2 q => ?_) (fun Dd C h tk m' ys F₃ N₃ offD hn hC₀ hD₀ hCL hDL hCD offC hyl htv => ?_)
  · rw [hpick] at hv
    have hv' : (vs.take 14)[j]? = some v := by simpa using hv
    have hm' : v ∈ vs := List.mem_of_mem_take (List.mem_of_getElem? hv')
    obtain ⟨i, hi, e⟩ := List.getElem_of_mem hm'
    obtain ⟨nn, t, e', _⟩ := IntsAre.at hI i v (by rw [List.getElem?_eq_getElem hi, e])
    exact ⟨nn, t, e'⟩
  · refine wpAny_BinOp (wpAny_BinOp (wpAny_BinOp (ldVarK (C := C) hn e2 (wpAny_Constant_int ?_) hkind (z2 C))))
    refine PyProof.Rows.mul_int ?_ (IntMulOk.of_right (by decide))
    refine wpAny_BinOp (wpAny_Constant_int (ldVarK (C := C) hn e1 ?_ hkind (z1 C)))
    refine PyProof.Rows.mul_int ?_ (IntMulOk.of_left (by decide))
    refine PyProof.Rows.add_int ?_
    refine wpAny_Constant_int (PyProof.Rows.mod_int (by decide) ?_)
    have e : (n * 101 + 7 * (j : Int)).fmod 1000003 = (n * 101 + 7 * (j : Int)) % 1000003 := Int.fmod_eq_emod_of_nonneg _ (by decide)
    rw [e]
    exact q _ _ _ (Int.emod_nonneg _ (by decide)) (Int.emod_lt_of_pos _ (by decide))
  · show wpAny _ A (assign (.Name "tape" p20) (envOf cn cs L a cd) (.ref Dd)) _ _ _
    have nd₃ : (((Dd, LCg.lst ys) :: (ax, PySem.W.listOf (slicePick vs.toArray none (some 14) none) 0) :: l).map (·.1)).Nodup := List.nodup_cons.mpr ⟨fun q => by
      obtain ⟨p, hp, e⟩ := List.mem_map.mp q
      exact offD p hp e, nd₁⟩
    have hp' : ((envOf cn cs L a cd).scope.kind == .class || ((envOf cn cs L a cd).scope.kind == .module && (envOf cn cs L a cd).locals != (envOf cn cs L a cd).globals)) = false := by
      rw [show (envOf cn cs L a cd).scope.kind = .function from hk]; rfl
    refine wpAny_assign_Name (wpAny_storeName_local y2 F₃.ns (fun h₄ hn₄ hs₄ => ?_) hp')
    have F₄ := F₃.set hn₄ hs₄
    have N₄ : News h₀ L h₄ _ := N₃.set hs₄
    refine ⟨m', hn.sameBut hs₄ hCL, fun h'' hs'' => ?_⟩
    refine hQ Dd h'' _ ((Dd, LCg.lst ys) :: (ax, PySem.W.listOf (slicePick vs.toArray none (some 14) none) 0) :: l) (F₄.change hs'' hCL hC₀) ⟨fun z hz => ?_, nd₃⟩ ⟨_, _, .head _, htv, by simpa using hyl⟩ fun z hz => .tail _ (.tail _ hz)
    refine ⟨hs''.extBut _ _ ?_ (N₄ z hz).1, (N₄ z hz).2⟩
    rcases List.mem_cons.mp hz with rfl | hz
    · exact Ne.symm hCD
    · exact offC z hz
end
end
end Mine
end
-- part PJ
section
open PySem PySem.W PySem.Calls PyProof.Rows
set_option Elab.async false
set_option maxRecDepth 100000
set_option maxHeartbeats 4000000
namespace Mine
noncomputable section
variable {prog : Program} {w : World} {s : Shared} {h₀ : Heap} {L : Addr} {m : Str → Option Value} {news : List (Addr × Obj)}
  {p : Program} {loose : List Str} {mean : ExcName → Option Value} {mg mb : Str → Option Value} {cd : Value}
theorem ctorA {fa : Addr} {x : Str} {t : Tok} {nms : List (Str × NameKind)} {mor : List (Str × Const)} {Q : Value → Shared → Prop} (T : Top p loose mean mg mb h₀) (X : (Mine.hd.heap_1 w.params).In h₀) (K0 : Below callerA h₀ [] h₀) (F : Fr h₀ L s.heap m) (N : News h₀ L s.heap news) (nd : (news.map (·.1)).Nodup)
    (hQ : ∀ (b : Bx) (r dr : Addr) (T : Nat → Tok) (lf stv : Value) (d : SD) (h' : Heap) (tk : Nat) (l' : List (Addr × Obj)) (u : Tok), Fr h₀ L h' m → Ld h₀ L h' (l' ++ news) → b.x = x → SB w.params l' b d 10 0 u 2 → d.off = 0 → d.size = 0 → (r, instObj 762 dr) ∈ l' → (dr, dictOf (rE7 w.params T b.st lf stv .none) 7) ∈ l' → Q (.ref r) { s with heap := h', toks := tk }) :
   wpAny (model prog w) (callerA.deeper (envOf "law" { kind := .function, names := nms, isGenerator := false, isCoroutine := false, more := mor } L fa cd)) (call (.ref 762) [.str x t]) Q (fun _ _ => False) s := by
  k_steps
  rename Fr h₀ L _ m => kF
  rename News h₀ L _ _ => kN
  refine' hQ ⟨_, _, _, _, _, tokFn [_, _, _, _, _, _, _, _, _, _], tokFn [_, _], x, t⟩ _ _ (tokFn [_, _, _, _, _, _, _]) _ _ ⟨_, _, _, _, _, _, _, _, _, _, _, _, _⟩ _ _ [_, _, _, _, _, _, _, _, _, _, _] _ kF ⟨kN, ?nd⟩ rfl ⟨⟨?a1, ?a2⟩, ?a3, ?a4, ?a5, ?a6, ?a7, ?a8, ?a9, ?a10⟩ ?b1 ?b2 ?b3 ?b4
  case b4 => k_mem
  case b3 => k_mem
  case a2 => k_mem
  case a1 => k_mem
  case a4 => k_mem
  case a3 => k_mem
  case a5 => k_mem
  case a6 => rfl
  case a7 => rfl
  case a8 => rfl
  case a9 => exact ⟨_, _, rfl⟩
  case a10 => exact ⟨_, _, rfl⟩
  case b1 => rfl
  case b2 => rfl
  case nd =>
    simp only [List.cons_append, List.nil_append, List.map_cons]
    repeat' (first | exact nd | exact not_mem_low (by assumption) (by omega) | refine not_mem_cons' (by k_ne) ?_ | refine nodup_cons' ?_ ?_)
end
end Mine
end
-- part PK
section
open PySem PySem.W PySem.Calls PyProof.Rows PySem.SeqAt
set_option Elab.async false
set_option maxRecDepth 100000
namespace Mine
noncomputable section
theorem g_htok {P : Params} : nsIn (Mine.hd.heap_1 P) mainGlobals "HTMLTokenizer" = some (some (.ref 762)) := by k_is
theorem kp_htok {P : Params} : keepIn (Mine.hd.heap_1 P) (.ref 762) = true := by k_is
theorem cr_tq {P : Params} : takerIn (Mine.hd.heap_1 P) 762 "tokenQueue" = some none := by k_is
theorem cr_markup {P : Params} : findIn (Mine.hd.heap_1 P) (.ref 762) "markupDeclarationOpenState" = some (some (.ref 605)) := by k_is
theorem fn_markup {P : Params} : isFn (Mine.hd.heap_1 P) (.ref 605) = true := by k_is
theorem kp_markup {P : Params} : keepIn (Mine.hd.heap_1 P) (.ref 605) = true := by k_is
theorem rE_markup (P T st lf stv cur q) : getL "markupDeclarationOpenState" (rE P T st lf stv cur q) = some none := by kernel_rfl
theorem rE7_isq (P T st lf stv cur) : (getL "tokenQueue" (rE7 P T st lf stv cur)).isSome = true := by kernel_rfl
noncomputable def T8 (T : Nat → Tok) (k : Tok) (i : Nat) : Tok := if i = 7 then k else T i
theorem rE7_setq (P T st lf stv cur q k) : (putL "tokenQueue" (PyData.keyHash P "tokenQueue") (.str "tokenQueue" k) (.ref q) (rE7 P T st lf stv cur), putN "tokenQueue" (rE7 P T st lf stv cur) 7) = (rE P (T8 T k) st lf stv cur q, 8) := by kernel_rfl
theorem rE7_ne_sE {P : Params} {T T' : Nat → Tok} {st : Addr} {lf stv cur : Value} {n n' : Nat} {d : SD} : dictOf (rE7 P T st lf stv cur) n ≠ dictOf (sE P T' d) n' := by
  intro h
  have h2 := congrArg Obj.data h
  simp [dictOf, rE7, sE] at h2
theorem rE7_ne_tE {P : Params} {T T' : Nat → Tok} {st : Addr} {lf stv cur : Value} {n n' : Nat} {x : Str} {xt : Tok} {pl : Int} {u : Tok} : dictOf (rE7 P T st lf stv cur) n ≠ dictOf (tE P T' x xt pl u) n' := by
  intro h
  have h2 := congrArg Obj.data h
  simp [dictOf, rE7, tE] at h2
section
variable {prog : Program} {w : World} {A : Around} {E : Value → Shared → Prop} {s : Shared} {h₀ : Heap} {L a : Addr} {m : Str → Option Value} {rest l news : List (Addr × Obj)}
  {p : Program} {loose : List Str} {mean : ExcName → Option Value} {mg mb : Str → Option Value} {cn : Str} {cs : Scope} {cd : Value}

/-- reader = HTMLTokenizer(text) -/
theorem op_reader {fa : Addr} {x : Str} {t : Tok} {nms : List (Str × NameKind)} {mor : List (Str × Const)} {p1 p2 p3 p4 p5 : Pos} {Q : Flow → Shared → Prop} (T : Top p loose mean mg mb h₀) (X : (Mine.hd.heap_1 w.params).In h₀) (K0 : Below callerA h₀ [] h₀) (F : Fr h₀ L s.heap m) (D : Ld h₀ L s.heap news) (hx : m "text" = some (.str x t))
    (hQ : ∀ (b : Bx) (r dr : Addr) (T : Nat → Tok) (lf stv : Value) (d : SD) (h' : Heap) (tk : Nat) (l' : List (Addr × Obj)) (u : Tok), Fr h₀ L h' (fun y => if y = "reader" then some (.ref r) else m y) → Ld h₀ L h' (l' ++ news) → b.x = x → SB w.params l' b d 10 0 u 2 → d.off = 0 → d.size = 0 → (r, instObj 762 dr) ∈ l' → (dr, dictOf (rE7 w.params T b.st lf stv .none) 7) ∈ l' →
      Q .next { s with heap := h', toks := tk })
    (y1 : (envOf "law" { kind := .function, names := nms, isGenerator := false, isCoroutine := false, more := mor } L fa cd).kindOf "text" = some .local) (y2 : (envOf "law" { kind := .function, names := nms, isGenerator := false, isCoroutine := false, more := mor } L fa cd).kindOf "HTMLTokenizer" = some .globalImplicit) (y3 : (envOf "law" { kind := .function, names := nms, isGenerator := false, isCoroutine := false, more := mor } L fa cd).kindOf "reader" = some .local) :
    wpAny (model prog w) (callerA.deeper (envOf "law" { kind := .function, names := nms, isGenerator := false, isCoroutine := false, more := mor } L fa cd)) (exec (.Assign [.Name "reader" p1] (.Call (.Name "HTMLTokenizer" p2) [.Name "text" p3] [] p4) p5) (envOf "law" { kind := .function, names := nms, isGenerator := false, isCoroutine := false, more := mor } L fa cd)) Q E s := by
  refine wpAny_Assign_Name (Call_ (name_K F X (topRead_of T) g_htok ?_ rfl y2))
  refine callWith_k1 (K := Mine.hd.heap_1 w.params) kp_htok (ld F hx ⟨X.keeps F.keep, ?_⟩ rfl y1)
  refine wpAny_false (E' := fun _ _ => False) ?_
  refine ctorA T X K0 F D.N D.nd fun b r dr T' lf stv d h₁ tk₁ l₁ u F₁ D₁ e1 B e2 e3 m1 m2 => ?_
  refine stN (s := { s with heap := h₁, toks := tk₁ }) F₁ D₁.N (fun h₂ F₂ N₂ => ?_) rfl y3
  exact hQ b r dr T' lf stv d h₂ _ l₁ u F₂ ⟨N₂, D₁.nd⟩ e1 B e2 e3 m1 m2

/-- reader.tokenQueue = [] -/
theorem op_setq {r dr st : Addr} {T : Nat → Tok} {lf stv cur : Value} {p1 p2 p3 p4 : Pos} {Q : Flow → Shared → Prop} (F : Fr h₀ L s.heap m) (X : (Mine.hd.heap_1 w.params).In h₀) (D : Ld h₀ L s.heap l) (hx : m "reader" = some (.ref r)) (h1 : (r, instObj 762 dr) ∈ l) (h2 : (dr, dictOf (rE7 w.params T st lf stv cur) 7) ∈ l)
    (h : ∀ q h' tk k, Fr h₀ L h' m → Ld h₀ L h' (setO dr (dictOf (rE w.params (T8 T k) st lf stv cur q) 8) (l ++ [(q, PySem.W.listOf #[] 0)])) → Q .next { s with heap := h', toks := tk })
    (hk : cs.kind = .function) (y1 : (envOf cn cs L a cd).kindOf "reader" = some .local) :
    wpAny (model prog w) A (exec (.Assign [.Attribute (.Name "reader" p1) "tokenQueue" p2] (.List [] p3) p4) (envOf cn cs L a cd)) Q E s := by
  refine plainObj_wpAny_Assign_Attribute (List_ (wpAny_items_nil ?_))
  refine newList_ld F D (fun q h₁ F₁ D₁ => ?_) (by show 0 ≤ sizeLine; decide)
  refine ld F₁ hx ?_ hk y1
  exact set_dict F₁ X D₁.N (InstAt.of_news D₁.N (List.mem_append_left _ h1) (List.mem_append_left _ h2)) rfl cr_set cr_over cr_tq cr_dict (rE7_isq _ _ _ _ _ _) (rE7_setq _ _ _ _ _ _ _ _) (setO_upd D₁.nd (List.mem_append_left _ h2)) (Nat.le_of_ble_eq_true rfl)
    fun h₂ F₂ N₂ => h q h₂ _ _ F₂ ⟨N₂, setO_nd D₁.nd⟩

/-- reader.markupDeclarationOpenState() -/
theorem op_markup {b : Bx} {d : SD} {n k nr nq : Nat} {u : Tok} {r dr q : Addr} {T : Nat → Tok} {lf stv cur : Value} {x0 x1 x2 x3 x4 x5 x6 : Nat} {rr : List Nat} {loose : List Str} {p1 p2 p3 p4 : Pos} {Q : Flow → Shared → Prop} (hA : Room A 7) (F : Fr h₀ L s.heap m) (D : Ld h₀ L s.heap l) (X : (Mine.hd.heap_1 w.params).In h₀) (T₀ : TopRead p loose mg mb h₀) (hx : XOk b.x) (hm : m "reader" = some (.ref r))
    (B : SB w.params l b d n 0 u k) (h0 : d.off = 0) (h1 : d.size = 0) (Rb : RB w.params l r dr b.st q T lf stv cur nr) (hq : (q, PySem.W.listOf #[] nq) ∈ l)
    (hch : (normS b.x).cps.toList = x0 :: x1 :: x2 :: x3 :: x4 :: x5 :: x6 :: rr)
    (c0 : x0 = 100 ∨ x0 = 68) (c1 : x1 = 111 ∨ x1 = 79) (c2 : x2 = 99 ∨ x2 = 67) (c3 : x3 = 116 ∨ x3 = 84) (c4 : x4 = 121 ∨ x4 = 89) (c5 : x5 = 112 ∨ x5 = 80) (c6 : x6 = 101 ∨ x6 = 69)
    (hR : ∀ c z dd rest' h' tk, Begun w.params prog w b k r q rr c z dd rest' → Fr h₀ L h' m → Ld h₀ L h' (led w.params c dd ++ rest') → (∀ p ∈ l, p.1 ≠ b.sd → p.1 ≠ b.td → p.1 ≠ dr → p.1 ≠ r → p.1 ≠ q → p.1 ≠ b.st → p ∈ rest') → Q .next { s with heap := h', toks := tk })
    (hk : cs.kind = .function) (y1 : (envOf cn cs L a cd).kindOf "reader" = some .local) (hp : (p2.endLine == p3.line) = true) :
    wpAny (model prog w) A (exec (.Expr (.Call (.Attribute (.Name "reader" p1) "markupDeclarationOpenState" p2) [] [] p3) p4) (envOf cn cs L a cd)) Q E s := by
  refine wpAny_Expr (MCallN (fun pl => ld F hm ?_ hk y1) rfl hp) (by unfold interactive; rw [show (envOf cn cs L a cd).scope.kind = .function from hk]; rfl)
  refine method_inst F X (InstAt.of_news D.N Rb.h1 Rb.h2) (cr_get _) cr_markup fn_markup (rE_markup _ _ _ _ _ _ _) ?_
  refine callWith_K0 (env := envOf cn cs L a cd) (X.keeps F.keep) kp_markup (wpAny_call ?_)
  exact markup_in hA F D X T₀ hx B h0 h1 Rb hq hch c0 c1 c2 c3 c4 c5 c6 hR
end
end
end Mine
end
-- part PM
section
open PySem PySem.W PySem.Calls PyProof.Rows PySem.SeqAt
set_option Elab.async false
set_option maxRecDepth 100000
namespace Mine
noncomputable section
theorem law_cut {M : Model} {A : Around} {t : Sem Flow} {Q : Flow → Shared → Prop} {E : Value → Shared → Prop} {s : Shared} {h₀ : Heap} {L : Addr} {m : Str → Option Value} (_F : Fr h₀ L s.heap m)
    (h : wpAny M A t (fun fl s' => ∃ h' tk m', fl = .ret (.bool true) ∧ s' = { s with heap := h', toks := tk } ∧ Fr h₀ L h' m') E s)
    (fin : ∀ h' tk m', Fr h₀ L h' m' → Q (.ret (.bool true)) { s with heap := h', toks := tk }) : wpAny M A t Q E s :=
  wpAny_mono h (fun fl s' hq => by obtain ⟨h', tk, m', rfl, rfl, F'⟩ := hq; exact fin h' tk m' F') fun _ _ e => e
theorem regroup {P : Params} {h₀ h : Heap} {L : Addr} {c : Cx} {d : Dy} {rest l' : List (Addr × Obj)} (D : Ld h₀ L h l') (nd : ((led P c d ++ rest).map (·.1)).Nodup) (hs : ∀ z ∈ led P c d ++ rest, z ∈ l') :
    ∃ rest', Ld h₀ L h (led P c d ++ rest') ∧ ∀ z ∈ rest, z ∈ rest' := by
  obtain ⟨rest', hp⟩ := perm_pick (l := l') (e := led P c d) (nd_left nd) fun p hp => hs p (List.mem_append_left _ hp)
  refine ⟨rest', D.perm hp.symm, fun z hz => in_rest hp (hs z (List.mem_append_right _ hz)) fun q hq e => ?_⟩
  rw [List.map_append, List.nodup_append] at nd
  exact nd.2.2 q.1 (List.mem_map_of_mem hq) z.1 (List.mem_map_of_mem hz) (by rw [e])
/-- all that stood before the reader was made stands behind the word -/
theorem was_kept {P : Params} {l₄ l₃ : List (Addr × Obj)} {q r dr : Addr} {T : Nat → Tok} {lf stv : Value} {o : Obj} {b : Bx} {d : SD} {n k : Nat} {pl : Int} {u : Tok} (nd : (((l₄ ++ l₃) ++ [(q, o)]).map (·.1)).Nodup) (B : SB P l₄ b d n pl u k) (m1 : (r, instObj 762 dr) ∈ l₄) (m2 : (dr, dictOf (rE7 P T b.st lf stv .none) 7) ∈ l₄) :
    ∀ z ∈ l₃, (∀ o', z ∈ setO dr o' ((l₄ ++ l₃) ++ [(q, o)])) ∧ z.1 ≠ b.sd ∧ z.1 ≠ b.td ∧ z.1 ≠ dr ∧ z.1 ≠ r ∧ z.1 ≠ q ∧ z.1 ≠ b.st := by
  intro z hz
  have n1 := nd_left nd
  rw [List.map_append, List.nodup_append] at n1
  have off : ∀ y ∈ l₄, z.1 ≠ y.1 := fun y hy e => n1.2.2 y.1 (List.mem_map_of_mem hy) z.1 (List.mem_map_of_mem hz) e.symm
  exact ⟨fun _ => mem_setO (List.mem_append_left _ (List.mem_append_right _ hz)) (off _ m2), off _ B.S.h2, off _ B.h2, off _ m2, off _ m1, nd_snoc_ne nd (List.mem_append_right _ hz), off _ B.S.h1⟩
/-- the reader, its queue laid -/
theorem reader_laid {P : Params} {l₄ l₃ : List (Addr × Obj)} {q r dr : Addr} {T : Nat → Tok} {lf stv : Value} {b : Bx} {d : SD} {n k : Nat} {pl : Int} {u kk : Tok} (nd : (((l₄ ++ l₃) ++ [(q, PySem.W.listOf #[] 0)]).map (·.1)).Nodup) (B : SB P l₄ b d n pl u k) (m1 : (r, instObj 762 dr) ∈ l₄) (m2 : (dr, dictOf (rE7 P T b.st lf stv .none) 7) ∈ l₄) :
    SB P (setO dr (dictOf (rE P (T8 T kk) b.st lf stv .none q) 8) ((l₄ ++ l₃) ++ [(q, PySem.W.listOf #[] 0)])) b d n pl u k ∧ RB P (setO dr (dictOf (rE P (T8 T kk) b.st lf stv .none q) 8) ((l₄ ++ l₃) ++ [(q, PySem.W.listOf #[] 0)])) r dr b.st q (T8 T kk) lf stv .none 8 ∧
      (q, PySem.W.listOf #[] 0) ∈ setO dr (dictOf (rE P (T8 T kk) b.st lf stv .none q) 8) ((l₄ ++ l₃) ++ [(q, PySem.W.listOf #[] 0)]) := by
  have up : ∀ z ∈ l₄, z ∈ (l₄ ++ l₃) ++ [(q, PySem.W.listOf #[] 0)] := fun z hz => List.mem_append_left _ (List.mem_append_left _ hz)
  have hq : (q, PySem.W.listOf #[] 0) ∈ (l₄ ++ l₃) ++ [(q, PySem.W.listOf #[] 0)] := List.mem_append_right _ (.head _)
  refine ⟨(B.mono up).other nd (up _ m2) (Ne.symm inst_ne_dict) (Ne.symm inst_ne_dict) (fun _ _ => rE7_ne_sE) (fun _ _ _ => rE7_ne_tE) (Ne.symm meth_ne_dict), ⟨mem_setO (up _ m1) (nodup_ne nd (up _ m1) (up _ m2) inst_ne_dict), setO_self (up _ m2)⟩, mem_setO hq (nodup_ne nd hq (up _ m2) list_ne_dict)⟩
section
variable {prog : Program} {w : World} {b : Bx} {k : Nat} {r q : Addr} {rr bn : List Nat} {c : Cx} {z : SD} {dd d : Dy} {rest' l : List (Addr × Obj)} {tk : Tk} {fs : List Str} {dn : Bool}
/-- the stream at the end: what op_end wants -/
theorem sb_end (hb : Begun w.params prog w b k r q rr c z dd rest') (hr : ∃ rest, Rep prog w c z ⟨.data, bn, tk, fs, dn⟩ d rest) (h1 : ∀ p ∈ rest', p ∈ l) (h2 : (c.st, instObj 166 c.sd) ∈ l) (h3 : (c.sd, dictOf (sE w.params c.TS d.sd) d.ns) ∈ l) :
    ∃ v o, SB w.params l b d.sd d.ns b.x.length v k ∧ d.sd.off = ((o : Nat) : Int) ∧ o ≤ d.sd.chunk.length ∧ d.sd.size = d.sd.chunk.length ∧ d.sd.chunk.length ≤ 9000 ∧ d.sd.chunk.cps.toList.drop o = bn := by
  obtain ⟨rest, hr⟩ := hr
  obtain ⟨ot, pre, e1, e2⟩ := hr.tx
  obtain ⟨v, hv⟩ := hb.h2
  rw [hb.hst, hb.hsd] at h2
  rw [hb.hsd, hb.hTS] at h3
  have hz := hb.zok
  have hlen : z.chunk.cps.toList.length = z.chunk.length := by simp [Str.length]
  refine ⟨v, pre.length, ⟨⟨h2, h3⟩, h1 _ hb.h1, h1 _ hv, h1 _ hb.hmu, ?_, ?_, ?_, ?_, ?_⟩, ?_, ?_, ?_, ?_, ?_⟩
  · rw [e1]; exact hb.tx
  · rw [e1]; exact hb.rce
  · rw [e1]; exact hb.bc
  · rw [e1]; exact hb.pls
  · rw [e1]; exact hb.pcs
  · rw [e1]
  · rw [e1]
    show pre.length ≤ z.chunk.length
    rw [← hlen, e2, List.length_append]
    omega
  · rw [e1]; exact hz.size
  · rw [e1]; exact hz.len
  · rw [e1]
    show z.chunk.cps.toList.drop pre.length = bn
    rw [e2]
    simp
end
end
end Mine
end
-- part PN
section
open PySem PySem.W PySem.Calls PyProof.Rows PySem.SeqAt
set_option Elab.async false
set_option maxRecDepth 100000
namespace Mine
noncomputable section
theorem law_units {A : Around} (h : Room A 8) : A.units + 1 < cLine := by
  have := h.units
  show A.units + 1 < 9900
  omega
theorem law_hu1 {env : Env} : (callerA.deeper env).units + 1 < cLine := law_units room_law
theorem law_hu {env : Env} : (callerA.deeper env).units < cLine := Nat.lt_of_succ_lt law_hu1
theorem len63 {vs : List Value} {ns : List Int} (h : IntsAre vs ns) (hC : ¬ (((63 : Nat) : Int) < ((ns.length : Nat) : Int))) : vs.length ≤ 1000 := by
  have := h.length
  omega
theorem tail_len {t : List Nat} {pb sy : Option Str} {ok : Bool} {fl : List Str} (h : Tail t pb sy ok fl) : fl.length ≤ 210 := by
  have jl : ∀ j x, (jf j x).length ≤ 1 := fun j x => by unfold jf; split <;> simp
  cases h with
  | @k0 g j hg hj => have := jl j expS; omega
  | @k1 kw g2 qt cs g j hk hg2 hi hg hj =>
    have := jl j oddS
    have := gapF_len g2 oddS
    have := nulls_len cs
    have := hi.l
    simp only [List.length_append]
    omega
  | @k2 kw g2 qt cs g3 qu ds g j hk hg2 hi hg3 hi2 hg hj =>
    have := jl j oddS
    have := gapF_len g2 oddS
    have := gapF_len g3 oddS
    have := nulls_len cs
    have := nulls_len ds
    have := hi.l
    have := hi2.l
    simp only [List.length_append]
    omega
  | @k3 kw g2 qt cs g j hk hg2 hi hg hj =>
    have := jl j oddS
    have := gapF_len g2 oddS
    have := nulls_len cs
    have := hi.l
    simp only [List.length_append]
    omega
theorem all_len {g cs : List Nat} {fl fs : List Str} (h1 : cs.length ≤ 100) (h2 : fl.length ≤ 210) (h : fs = gapF g (Str.ofString "need-space-after-doctype") ++ nulls cs ++ fl) : fs.length ≤ 400 := by
  have n1 := gapF_len g (Str.ofString "need-space-after-doctype")
  have n2 := nulls_len cs
  rw [h, List.length_append, List.length_append]
  omega
theorem turns_fit {x : Str} {K x0 x1 x2 x3 x4 x5 x6 : Nat} {g cs t bn : List Nat} (h : (normS x).cps.toList = x0 :: x1 :: x2 :: x3 :: x4 :: x5 :: x6 :: (g ++ (cs ++ 32 :: (t ++ bn)))) (hK : K ≤ g.length + cs.length + t.length + 4) : K ≤ x.length + 6 := by
  have h1 := normS_len x
  have h2 : (normS x).cps.toList.length = (normS x).length := by simp [Str.length]
  rw [h] at h2
  simp only [List.length_cons, List.length_append] at h2
  omega
end
end Mine
end
section
open PySem PySem.W PySem.Calls PyProof.Rows PySem.SeqAt
set_option Elab.async false
set_option maxRecDepth 100000
open Mine
local macro_rules | `(tactic| k_qdec) => `(tactic| decide +kernel)
set_option maxHeartbeats 1000000 in
theorem PySem.Challenge.cw_ru0005_02_holds : PySem.Challenge.rw_ru0005_02.Holds := by
  refine Mine.hd ⟨Mine.left0, ?_⟩
  k_go0
  rename Fr _ _ _ _ => kF
  rename News _ _ _ _ => kN
  rename Top _ _ _ _ _ _ => kT
  rename Below _ _ _ _ => kB
  rename Frag.In _ _ => kX
  rename IntsAre _ _ => kI
  rename Heap.IsList _ _ _ => kL
  rename Shared.gens _ = #[] => kG
  rename ¬ (_ < ((_ : Nat) : Int)) => kC
  refine law_cut kF ?_ (fun h' tk m' F' => ?_)
  rotate_left
  · refine goodW_bool F' kG (fun _ => rfl) ?_
    wrow_post
  have kR := topRead_of kT
  have hvs := len63 kI kC
  have kD : Ld _ _ _ [] := ⟨kN, List.nodup_nil⟩
  dsimp only
  refine wpAny_execs_cons (op_tape rfl kF kD kX kR rfl kL kI hvs (fun tp h₁ tk₁ l₁ F₁ D₁ ht₁ keep₁ => ?_) (by with_unfolding_all rfl) (by with_unfolding_all rfl) (by decide) rfl (by decide) rfl rfl rfl rfl rfl rfl (fun _ => rfl) (fun _ => rfl) (fun _ => rfl))
  dsimp only
  refine wpAny_execs_cons (Assign_Tuple (Call_ (name_K F₁ kX kR g_doct ?_)) rfl rfl)
  refine callWith_k1 (K := Mine.hd.heap_1 _) kp_doct (ld F₁ (if_pos rfl) ⟨kX.keeps F₁.keep, wpAny_call ?_⟩)
  refine doct_in (room_law.le (by decide)) F₁ D₁ kX kR ht₁ fun b wt fa x nm bh pb sy ok fs vp vs t1 t2 t3 h₂ tk₂ l₂ hdoc hop hos F₂ D₂ hb hwt hf₂ keep₂ => ?_
  refine assign4 rfl F₂ D₂ hb (fun h₃ tk₃ F₃ D₃ => ?_)
  dsimp only
  obtain ⟨xok, ⟨x0, x1, x2, x3, x4, x5, x6, g, cs, t, bn, fl, hN, c0, c1, c2, c3, c4, c5, c6, hg, hcs, hne, hlen, htail, hnm, hfs, hbn⟩, hsmall⟩ := hdoc
  refine wpAny_execs_cons (op_reader kT kX kB F₃ D₃ rfl (fun bx r dr T lf stv d h₄ tk₄ l₄ u F₄ D₄ ebx B₄ d0 d1 m1 m2 => ?_) rfl rfl rfl)
  dsimp only
  refine wpAny_execs_cons (op_setq F₄ kX D₄ (if_pos rfl) (List.mem_append_left _ m1) (List.mem_append_left _ m2) (fun q h₅ tk₅ k₅ F₅ D₅ => ?_) rfl rfl)
  dsimp only
  subst ebx
  have nd₅ := D₅.nd
  rw [setO_fst] at nd₅
  obtain ⟨B₅, Rb₅, hq₅⟩ := reader_laid (kk := k₅) nd₅ B₄ m1 m2
  refine wpAny_execs_cons (op_markup (room_law.le (by decide)) F₅ D₅ kX kR xok (if_pos rfl) B₅ d0 d1 Rb₅ hq₅ hN c0 c1 c2 c3 c4 c5 c6 (fun c z dd rest₆ h₆ tk₆ hbeg F₆ D₆ keep₆ => ?_) rfl rfl rfl)
  dsimp only
  have oldk := was_kept nd₅ B₄ m1 m2
  have up₆ := fun z hz => keep₆ z ((oldk z hz).1 _) (oldk z hz).2.1 (oldk z hz).2.2.1 (oldk z hz).2.2.2.1 (oldk z hz).2.2.2.2.1 (oldk z hz).2.2.2.2.2.1 (oldk z hz).2.2.2.2.2.2
  have hcr := hbeg.hr
  obtain ⟨mm, F₆', hrd, htx, hwa, hfam, hbe⟩ : ∃ mm, Fr _ _ h₆ mm ∧ mm "reader" = some (.ref c.r) ∧ mm "text" = some (.str bx.x t1) ∧ mm "wanted" = some (.ref wt) ∧ mm "faults" = some (.ref fa) ∧ mm "behind" = some (.str bh t2) := ⟨_, F₆, by rw [hcr]; rfl, rfl, rfl, rfl, rfl⟩
  clear F₆
  obtain ⟨K, hK, hre⟩ := r_all (prog := PySem.Challenge.rw_ru0005_02.row.prog) (w := _) (c := c) (z := z) (r := bn) hg hcs hne hlen htail
  have hKx := turns_fit hN hK
  refine wpAny_execs_cons (law_loop (s5 := ⟨0, 0, 0, 0⟩) (x := bx.x) (tx := t1) (room_law.le (by decide)) F₆' kX kR D₆ hrd htx hbeg.zok hbeg.rep hre hKx xok.len rfl (fun h₇ tk₇ m₇ d₇ rest₇ e₇ F₇ D₇ hr₇ hsub₇ => ?_) rfl rfl rfl rfl rfl rfl rfl rfl (fun _ => rfl))
  dsimp only
  have hrd₇ := (e₇ "reader" (by decide)).trans hrd
  have hwa₇ := (e₇ "wanted" (by decide)).trans hwa
  have hfa₇ := (e₇ "faults" (by decide)).trans hfam
  have hbe₇ := (e₇ "behind" (by decide)).trans hbe
  refine wpAny_execs_cons (wpAny_If (t_open law_hu F₇ kX kR D₇ hrd₇ hr₇ (fun h₈ tk₈ F₈ D₈ => ite_f rfl ?_)))
  refine wpAny_execs_nil ?_
  obtain ⟨vals, hqo, hdv⟩ := hr₇.q
  have hdv' : d₇.vals = vals.push (.ref c.tk) := hdv
  have hfl400 := all_len hlen (tail_len htail) hfs
  have hvs400 := hqo.size
  rw [← hfs] at hqo hvs400
  refine wpAny_execs_cons (op_pop F₈ kX D₈ hrd₇ hdv' (by rw [hvs400]; exact Nat.le_trans hfl400 (by decide)) (fun h₉ tk₉ F₉ D₉ => ?_) rfl rfl rfl)
  dsimp only
  obtain ⟨s0, s1, v2, v3, hto, ho2, ho3⟩ := hr₇.tok
  subst hnm
  have hup := fun z hz => hsub₇ z (up₆ z hz)
  refine wpAny_execs_cons (wpAny_If (t_told law_hu F₉ D₉ (if_pos rfl) ((if_neg (by decide)).trans hwa₇) m_tk hto (List.mem_append_right _ (hup _ hwt)) ho2 ho3 hop hos (fun h₁₀ tk₁₀ l₁₀ F₁₀ D₁₀ keep₁₀ => ite_f rfl ?_)))
  refine wpAny_execs_nil ?_
  obtain ⟨rest₁₁, D₁₁, keep₁₁⟩ := regroup D₁₀ D₉.nd keep₁₀
  refine wpAny_execs_cons (wpAny_If (t_lists law_hu1 rfl F₁₀ kX kR D₁₁ ((if_neg (by decide)).trans hrd₇) ((if_neg (by decide)).trans hfa₇) (hqo.mono keep₁₁) (hf₂.mono fun z hz _ => List.mem_append_right _ (keep₁₁ z (hup z hz))) (Nat.le_trans hfl400 (by decide)) (fun h₁₂ tk₁₂ l₁₂ F₁₂ D₁₂ keep₁₂ => ite_f rfl ?_)
    rfl rfl rfl (by with_unfolding_all rfl) (by decide) rfl (by decide) rfl (fun _ => rfl) (fun _ => rfl) (by with_unfolding_all rfl) (by decide) rfl (by decide) rfl (fun _ => rfl) (fun _ => rfl) (fun _ => rfl)))
  refine wpAny_execs_nil ?_
  obtain ⟨mu, hmu1, hmu2⟩ := hr₇.st
  have hst := hbeg.hst
  obtain ⟨v, o, B, hoff, ho, hsz, hmax, hdrop⟩ := sb_end hbeg ⟨rest₇, hr₇⟩ (fun p hp => keep₁₂ p (List.mem_append_right _ (keep₁₁ p (hsub₇ p hp)))) (keep₁₂ _ m_st) (keep₁₂ _ m_sd)
  have hdr := keep₁₂ _ m_dr
  rw [hst, hmu1] at hdr
  have hbn' := hbn
  rw [← hdrop] at hbn'
  refine wpAny_execs_cons (op_end (b := bx) (room_law.le (by decide)) F₁₂ kX kR D₁₂ ((if_neg (by decide)).trans hrd₇) ((if_neg (by decide)).trans hbe₇) ⟨keep₁₂ _ m_r, hdr⟩ (keep₁₂ _ (List.mem_append_right _ (keep₁₁ _ hmu2))) B xok.len hoff ho hsz hmax hbn' (fun h₁₃ tk₁₃ F₁₃ => ?_) rfl rfl rfl rfl)
  exact ⟨h₁₃, tk₁₃, _, rfl, rfl, F₁₃⟩
end
