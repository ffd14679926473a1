import PyProof.Rows.All
import Wide.All
import OpenK.AllK
import Wide.FinOn
import PySem.Challenge.RW_ph0143_01
set_option Elab.async false
set_option maxRecDepth 100000
set_option linter.unusedVariables false
set_option rowWalk.seconds 0
set_option compiler.extract_closed false
namespace Mine
section
open PySem PySem.W PyProof.Rows
set_option maxHeartbeats 8000000
theorem said_names : Fast.tw8377067652309620493 (Fast.tw2368527892694137696 PySem.Challenge.rw_ph0143_01).prog = true := by kernel_rfl
theorem said_roads : Fast.tw8326940854005059898 { strict := !(Fast.tw5923862056798008813 (Fast.tw2368527892694137696 PySem.Challenge.rw_ph0143_01).prog.main.body).all (Fast.tw3471404346716756564 Fast.tw17691160309236699985), foot := none, bare := List.filter (Fast.tw13343964577679436407 (Fast.tw2368527892694137696 PySem.Challenge.rw_ph0143_01).prog (Fast.tw2368527892694137696 PySem.Challenge.rw_ph0143_01).prog.main.body) [Str.ofString "vars", Str.ofString "dir", Str.ofString "locals"] } (Fast.tw2368527892694137696 PySem.Challenge.rw_ph0143_01).prog.main.body = true := by
  rw [Fast.sDec_eq]
  kernel_rfl
theorem said_meets : (Fast.tw17119622794617984870 (Fast.tw2368527892694137696 PySem.Challenge.rw_ph0143_01).prog (Fast.tw2368527892694137696 PySem.Challenge.rw_ph0143_01).prog.main.body fun _ n => Fast.tw17868728402115742887 n) = true := by kernel_rfl
theorem said14 : PySem.Challenge.rw_ph0143_01.wellSaid = true := by
  unfold OpenLaw.wellSaid OpenRow.wellSaid OpenRow.partSaid looksOpen
  rw [Fast.te2368527892694137696, Fast.te11788848310118352699, Fast.te12862048085361865435, Fast.te9807087744658564304, Fast.te8377067652309620493, Fast.te18344453789297297638, Fast.te14412699480532031325, Fast.te8326940854005059898, Fast.te5923862056798008813, Fast.te17691160309236699985, Fast.te13343964577679436407, Fast.te17119622794617984870, Fast.te17868728402115742887, Fast.te13582783067957832011, Fast.te12749700546528644094, Fast.te10501279942588096481, Fast.te8179353310426384613, Fast.te9558739934217749035, Fast.te16286561074155671207, Fast.named_eq, Fast.te6984425678791042302, Fast.te10792542408131684335, Fast.te797321630700447069, Fast.te482687673346738481, Fast.te12879404354523853263, Fast.te3471404346716756564, Fast.te17095254045102204799, Fast.te7723801398212525404]
  repeat' with_reducible refine look_both ?_ ?_
  all_goals first | with_reducible exact said_names | with_reducible exact said_roads | with_reducible exact said_meets | ((try rw [Fast.sDec_eq]); kernel_rfl)
section
local macro_rules | `(tactic| o_law) => `(tactic| refine holds_law said14 fun _ => ?_)
local macro_rules | `(tactic| o_head $_) => `(tactic| refine (fun (_ : True) h => h) ?hw ?hc)
local macro_rules | `(tactic| w_witness2) => `(tactic| exact True.intro)
open_top hd for PySem.Challenge.rw_ph0143_01
end
theorem walk_off : True := by
  w_top off
  trivial
end
section
open PySem PySem.W PyProof.Rows
set_option maxHeartbeats 0
noncomputable def view14 : Program := { PySem.Challenge.rw_ph0143_01.row.prog with main := { PySem.Challenge.rw_ph0143_01.row.prog.main with body := [0,2,3,4,6,7,8,9,11,12,13,14,15,16].filterMap fun i => PySem.Challenge.rw_ph0143_01.row.prog.main.body[i]? } }
noncomputable def hook14 : Hook := kmHook hd.heap_1 [2, 3, 15, 17, 18, 20, 21, 22, 24, 25, 27, 28, 29, 31, 32, 34, 35, 36, 38, 39, 41, 42, 50, 52, 53, 55, 56, 57, 59, 60, 62, 63, 64, 66, 67, 69, 70, 71, 73, 74, 76, 77, 78, 80, 81, 83, 84, 85, 87, 88, 90, 91, 92, 94, 95, 97, 98, 99, 101, 102, 104, 105, 106, 108, 109, 111, 112, 113, 114, 115, 116, 117, 120, 123, 128, 129, 130, 132, 133, 135, 136, 137, 139, 140, 142, 143, 144, 145, 147, 148, 150, 151, 152, 153, 155, 156, 158, 159, 160, 162, 163, 165, 166, 167, 169, 170, 172, 173, 174, 175, 177, 178, 180, 181, 182, 184, 185, 187, 188, 189, 190, 192, 193, 195, 196, 197, 198, 199, 200, 201, 204, 206, 207, 209, 210, 211, 214, 215, 216, 218, 219, 221, 222, 223, 225, 226, 228, 229, 230, 233, 234, 235, 238, 239] (fun _ => by kernel_rfl) [161, 168]
theorem headL : LeftO PySem.Challenge.rw_ph0143_01.row.prog view14 [Str.ofString "_Accumulator"] (fun s => xlAt view14 [] s && recOk (RowW.records PySem.Challenge.rw_ph0143_01.row.toRowW) s) (Hook.obs hook14) (Hook.val hook14) 2810 true := by
  intro w
  unfold openEnds fencedOpening topFrom staticsOk namesBound openGood expectedOf bltViewBooted bootValue pinGoodD plainGoodE plainGoodD wideGood clsGoodW wclsGood
  rw [Fast.te14082659384304107361, Fast.te4187177175401517315, Fast.te14364793385576792824, Fast.te5923862056798008813, Fast.te10274390034422433532, Fast.te14289696077712309145, Fast.te1435165496053646825, Fast.te3399658132070893891, Fast.te12139383696192264648, Fast.te15521713216982973386, Fast.te3247288618530077131, Fast.te210736558901404530, Fast.te821141287760084731, Fast.te4354255287344443571, Fast.te694669760492028198, Fast.te5066977653060700880, Fast.te1571739515156823405, Fast.te4857012375875476094, Fast.te1584917186373303978, Fast.te14846217769314788766, Fast.te12749700546528644094, Fast.te18344453789297297638]
  kernel_rfl
theorem in14 {w : World} {h : Heap} (Y : hook14.says w h) : (hd.heap_1 w.params).In h := km_in_of Y
theorem tabs14 {w : World} {h : Heap} (Y : hook14.says w h) : ∀ P ∈ [161, 168], h.get? P = some (tabObj #[]) := km_tabs_of Y
end
end Mine
section
namespace Mine
theorem up0 {a k m : Nat} (h : a < k) (e : Nat.ble k m = true) : a < m := Nat.lt_of_lt_of_le h (Nat.le_of_ble_eq_true e)
theorem up1 {a k m j : Nat} (h : a < k) (e : Nat.ble (k + j) m = true) : a + j < m := Nat.lt_of_lt_of_le (Nat.add_lt_add_right h j) (Nat.le_of_ble_eq_true e)
theorem up2 {a k m i j : Nat} (h : a < k) (e : Nat.ble (k + i + j) m = true) : a + i + j < m := up1 (Nat.add_lt_add_right h i) e
theorem up3 {a k m i j l : Nat} (h : a < k) (e : Nat.ble (k + i + j + l) m = true) : a + i + j + l < m := up2 (Nat.add_lt_add_right h i) e
theorem un0 {a k m : Nat} (h : a ≤ k) (e : Nat.ble k m = true) : a ≤ m := Nat.le_trans h (Nat.le_of_ble_eq_true e)
theorem un1 {a k m j : Nat} (h : a ≤ k) (e : Nat.ble (k + j) m = true) : a + j ≤ m := Nat.le_trans (Nat.add_le_add_right h j) (Nat.le_of_ble_eq_true e)
theorem ue0 {a b k m : Nat} (g : a = b) (h : b ≤ k) (e : Nat.ble k m = true) : a ≤ m := g ▸ un0 h e
end Mine
end
local macro_rules | `(tactic| omega) => `(tactic| (first | ((with_reducible refine' Mine.up1 ?hx ?ex); (case hx => with_reducible assumption); (case ex => exact rfl)) | ((with_reducible refine' Mine.up0 ?hx ?ex); (case hx => with_reducible assumption); (case ex => exact rfl)) | ((with_reducible refine' Mine.un0 ?hx ?ex); (case hx => with_reducible assumption); (case ex => exact rfl)) | ((with_reducible refine' Mine.up2 ?hx ?ex); (case hx => with_reducible assumption); (case ex => exact rfl)) | ((with_reducible refine' Mine.up3 ?hx ?ex); (case hx => with_reducible assumption); (case ex => exact rfl)) | ((with_reducible refine' Mine.un1 ?hx ?ex); (case hx => with_reducible assumption); (case ex => exact rfl)) | ((with_reducible refine' Mine.ue0 ?gx ?hx ?ex); (case gx => with_reducible assumption); (case hx => with_reducible assumption); (case ex => exact rfl)) | (with_reducible exact Nat.le_of_ble_eq_true rfl) | fail "none"))
section
open PySem PySem.W PyProof.Rows PySem.Calls
set_option maxHeartbeats 8000000
namespace Mine

structure Own (h₀ h : Heap) (own : List (Addr × Obj)) : Prop where
  keep : ∀ b o, h₀.get? b = some o → h.get? b = some o
  mem : ∀ p ∈ own, h.get? p.1 = some p.2 ∧ h₀.get? p.1 = none
noncomputable def Kp (S : List (Addr × Obj)) (h h' : Heap) : Prop := ∀ b o, h.get? b = some o → (∀ p ∈ S, p.1 ≠ b) → h'.get? b = some o

noncomputable abbrev mkA (dp un : Nat) (gd : Option (List Code)) (fs : List Env) : Around := { handled := none, depth := dp, frames := some fs, guards := gd, units := un }

section
variable {K : Frag} {p : Program} {loose : List Str} {mean : ExcName → Option Value} {mg mb : Str → Option Value} {prog : Program} {w : World} {A : Around} {E : Value → Shared → Prop} {s : Shared} {b₀ : Heap} {S : List (Addr × Obj)}

theorem notin_map {S : List (Addr × Obj)} {b : Addr} (h : ∀ p ∈ S, p.1 ≠ b) : b ∉ S.map (·.1) := fun q => by
  obtain ⟨p, hp, e⟩ := List.mem_map.mp q
  exact h p hp e

theorem enter_def {R : Result → Shared → Prop} {name qual : Str} {params : Arguments} {body : List Stmt} {scope : Scope} {cl : List (Str × Addr)} {dV kV doc pm cdv ct oc : Value} {an od : Option Addr} {osl : Array (Option Value)} {f : Addr} {args : Args} {binds : List (Str × Value)}
    (O : Own b₀ s.heap S) (X₀ : K.In b₀) (T : Top p loose mean mg mb b₀)
    (ho : K.lookup f = some ⟨oc, od, .func (fnX name qual params body scope cl dV kV doc pm an cdv ct), osl⟩) (hcd : codeIn K cdv qual = true) (hroom : A.depth < recursionLimit)
    (hbind : BindsTo s (fnX name qual params body scope cl dV kV doc pm an cdv ct) args binds) (hloc : ∀ y ∈ binds, scope.names.lookup y.1 = some .local)
    (h : ∀ g L h₁, (∀ b o, b₀.get? b = some o → g.get? b = some o) → Fr g L h₁ (fun y => binds.reverse.lookup y) → News g L h₁ S → K.In g → Top p loose mean mg mb g →
      (∀ b o, s.heap.get? b = some o → (∀ p ∈ S, p.1 ≠ b) → g.get? b = some o) → (∀ p ∈ S, p.1 < L) →
      wpAny (model prog w) (A.deeper (envX qual scope L f cdv cl)) (execs body (envX qual scope L f cdv cl))
        (fun fl s' => R (.ok (.ret (match fl with | .ret v => v | _ => .none))) s') (fun _ _ => False) { s with heap := h₁, toks := s.toks + binds.length })
    (hco : scope.isCoroutine = false) (hgen : scope.isGenerator = false) (hk : scope.kind = .function)
    (hcell : ∀ x ∈ scope.names, x.2 ≠ .cell) : codeAny (model prog w) A (.call (.ref f) args) R s := by
  have nm : ∀ b o, b₀.get? b = some o → b ∉ S.map (·.1) := fun b o e q => by
    obtain ⟨p, hp, rfl⟩ := List.mem_map.mp q
    rw [(O.mem p hp).2] at e; cases e
  have st : ∀ b o, b₀.get? b = some o → (hideAll s.heap (S.map (·.1))).get? b = some o := fun b o e => hideAll_get _ (O.keep b o e) (nm b o e)
  refine codeAny_call_def (fd := fnX name qual params body scope cl dV kV doc pm an cdv ct) (body := body) (binds := binds) hroom (O.keep _ _ (X₀ _ _ ho)) rfl (T.nolimit.keeps O.keep) (codeRec_of (X₀.keeps O.keep) hcd) rfl hbind hcell hloc (fun h₁ hns hk₁ => ?_) hco hgen hk
  refine wpAny_mono (h (hideAll s.heap (S.map (·.1))) s.heap.objs.size h₁ st ⟨hns, fun b o e => hk₁ b o (of_hideAll _ e), Nat.le_of_eq (hideAll_size _ _)⟩
    (fun p hp => ⟨hk₁ _ _ (O.mem p hp).1, Nat.ne_of_lt (Heap.lt_size (O.mem p hp).1), hideAll_none _ (List.mem_map_of_mem hp)⟩) (X₀.keeps st) (T.keeps st)
    (fun b o e n => hideAll_get _ e (notin_map n)) (fun p hp => Heap.lt_size (O.mem p hp).1)) (fun _ _ z => z) fun _ _ z => z.elim
theorem own_of {g h : Heap} {L : Addr} {m : Str → Option Value} {news : List (Addr × Obj)} (bg : ∀ b o, b₀.get? b = some o → g.get? b = some o) (F : Fr g L h m) (N : News g L h news) : Own b₀ h news :=
  ⟨fun b o e => F.keep b o (bg b o e), fun p hp => ⟨(N p hp).1, by
    cases q : b₀.get? p.1 with
    | none => rfl
    | some o => have z := (N p hp).2.2; rw [bg _ _ q] at z; cases z⟩⟩
theorem Own.sub {h : Heap} {l l' : List (Addr × Obj)} (O : Own b₀ h l) (hs : ∀ p ∈ l', p ∈ l) : Own b₀ h l' := ⟨O.keep, fun p hp => O.mem p (hs p hp)⟩
theorem kp_of {g h h' : Heap} {L : Addr} {m : Str → Option Value} (hid : ∀ b o, h.get? b = some o → (∀ p ∈ S, p.1 ≠ b) → g.get? b = some o) (F : Fr g L h' m) : Kp S h h' := fun b o e n => F.keep b o (hid b o e n)
theorem sub_nil {l : List (Addr × Obj)} : ∀ p ∈ ([] : List (Addr × Obj)), p ∈ l := fun _ h => nomatch h
theorem sub_cons {l r : List (Addr × Obj)} {a : Addr × Obj} (h : a ∈ l) (hr : ∀ p ∈ r, p ∈ l) : ∀ p ∈ a :: r, p ∈ l := fun p hp => by
  rcases List.mem_cons.mp hp with rfl | hp
  · exact h
  · exact hr p hp
theorem news_sub {g h : Heap} {L : Addr} {l l' : List (Addr × Obj)} (N : News g L h l) (hs : ∀ p ∈ l', p ∈ l) : News g L h l' := fun p hp => N p (hs p hp)

end

noncomputable abbrev accObj (d : Addr) (items : Array Value) (n : Nat) : Obj := ⟨.ref 199, some d, .seq items n, #[]⟩

theorem inst_acc {h₀ h : Heap} {L x C dx : Addr} {news : List (Addr × Obj)} {od : Obj} {its : Array Value} {n : Nat} {sl : Array (Option Value)} (N : News h₀ L h news) (h1 : (x, (⟨.ref C, some dx, .seq its n, sl⟩ : Obj)) ∈ news) (h2 : (dx, od) ∈ news) :
    InstAt h x ⟨.ref C, some dx, .seq its n, sl⟩ C (some od) := ⟨(N _ h1).1, rfl, rfl, (N _ h2).1⟩

section
variable {prog : Program} {w : World} {A : Around} {E : Value → Shared → Prop} {s : Shared} {K : Frag} {x C L : Addr} {h₀ : Heap} {m : Str → Option Value} {ox : Obj} {od : Option Obj} {news : List (Addr × Obj)} {es : List DictEntry} {n : Nat}

theorem method_any {pl : Sem Bool} {name : Str} {f : Value} {tf : String} {Q : Value × List Value → Shared → Prop} (X : K.In s.heap) (I : InstAt s.heap x ox C od) (hga : findIn K (.ref C) "__getattribute__" = some (some (.builtin "list.__getattribute__"))) (hk : findIn K (.ref C) "__getattr__" = some none)
    (hf : findIn K (.ref C) name = some (some f)) (ht : typeIn K f = some (.type tf)) (htf : tf = "function" ∨ tf = "method_descriptor") (hs : shadowIn od name = some false) (h : Q (f, [.ref x]) s) :
    wpAny (model prog w) A (getMethod (.ref x) name pl) Q E s := by
  have hcan : (Manifest.canonical "list.__getattribute__" != "object.__getattribute__") = false := by decide +kernel
  unfold getMethod specialOf
  refine wpAny_bind (wpAny_bind (I.type.here ((looks_findIn X hga).here ?_)))
  dsimp only
  rw [hcan, if_neg (by decide)]
  refine wpAny_bind (wpAny_bind (I.type.here ((looks_findIn X hk).here ?_)))
  refine wpAny_bind (wpAny_bind (I.type.here ((looks_findIn X hf).here (wpAny_bind ((looks_typeIn X ht).here ?_)))))
  rw [if_neg (by rcases htf with rfl | rfl <;> decide +kernel)]
  refine wpAny_bind (wpAny_loadPart I.at_ ?_)
  have hd := I.dict
  cases e : ox.dict with
  | none => exact wpAny_bind (wpAny_rule (wpAny_pure h))
  | some dx =>
    cases od with
    | none => rw [e] at hd; exact hd.elim
    | some o =>
      rw [e] at hd
      obtain ⟨r, a, b⟩ := Option.map_eq_some_iff.mp hs
      refine wpAny_bind (wpAny_bind (wpAny_loadPart hd ?_))
      rw [nsLook_of a]
      refine wpAny_pure ?_
      rw [b]
      exact wpAny_bind (wpAny_rule (wpAny_pure h))

theorem method_acc {pl : Sem Bool} {name : Str} {f : Value} {tf : String} {Q : Value × List Value → Shared → Prop} (F : Fr h₀ L s.heap m) (X₀ : K.In h₀) (I : InstAt s.heap x ox C (some (dictOf es n)))
    (hga : findIn K (.ref C) "__getattribute__" = some (some (.builtin "list.__getattribute__"))) (hk : findIn K (.ref C) "__getattr__" = some none)
    (hf : findIn K (.ref C) name = some (some f)) (ht : typeIn K f = some (.type tf)) (htf : tf = "function" ∨ tf = "method_descriptor") (hl : getL name es = some none) (h : Q (f, [.ref x]) s) : wpAny (model prog w) A (getMethod (.ref x) name pl) Q E s :=
  method_any (X₀.keeps F.keep) I hga hk hf ht htf (by show (lookIn name (dictOf es n)).map _ = _; rw [lookIn_dict, hl]; rfl) h

theorem call_acc {id : String} {nm : String} {b : Builtin} {rest : List Value} {Q : Value → Shared → Prop} (X : K.In s.heap) (I : InstAt s.heap x ox C od) (hsub : subIn K (.ref C) (.type "list") = some true)
    (hsplit : splitId id = some ("list", nm)) (hkind : builtinKind id = some .slot ∨ builtinKind id = some .method) (hq : plainId id = true) (hb : entryFor table id = some b)
    (ha : argsOk id ⟨.ref x :: rest, []⟩)
    (hc : wpAny (model prog w) A.in1 (b ⟨.ref x :: rest, []⟩) (fun fin s' => ∃ v, fin = .done (.ret v) ∧ Q v s') E s) :
    wpAny (model prog w) A (call (.builtin id) (.ref x :: rest)) Q E s := by
  refine wpAny_call (codeAny_call_builtin hq hb ?_)
  have hc' : wpAny (model prog w) A.in1 (b ⟨.ref x :: rest, []⟩) (fun fin s' => match fin with | .done f => (match (Except.ok f : Result) with | .ok (.ret v) => Q v s' | .ok _ => False | .error e => E e s') | .again c' => c'.quiet = true ∧ codeAny (model prog w) A c' (fun r s' => match r with | .ok (.ret v) => Q v s' | .ok _ => False | .error e => E e s') s') E s :=
    wpAny_mono hc (fun fin s' z => by obtain ⟨v, rfl, hv⟩ := z; exact hv) fun _ _ z => z
  rcases hkind with h | h <;>
  · simp only [checkBuiltinCall, h, hsplit]
    refine wpAny_bind (wpAny_bind (I.type.here ((looks_subIn X hsub).here ?_)))
    simp only [Bool.not_true, Bool.false_eq_true, if_false]
    cases hsig : Manifest.signature? id with
    | none => exact wpAny_pure hc'
    | some sig =>
      simp only [argsOk, hsig] at ha
      have h2 : Bind.checkArgs id sig ⟨.ref x :: rest, []⟩ = pure () := ha
      show wpAny _ _ (Bind.checkArgs id sig ⟨.ref x :: rest, []⟩) _ E s
      rw [h2]; exact wpAny_pure hc'

theorem get_acc {name : Str} {expr : Bool} {v : Value} {Q : Value → Shared → Prop} (X : K.In s.heap) (I : InstAt s.heap x ox C od) (hga : findIn K (.ref C) "__getattribute__" = some (some (.builtin "list.__getattribute__"))) (hk : findIn K (.ref C) "__getattr__" = some none)
    (hsub : subIn K (.ref C) (.type "list") = some true) (hf : findObj K C od name = some (.value v)) (hh : handedIn v = true) (h : Q v { s with toks := s.toks + 1 }) : wpAny (model prog w) A (getAttr (.ref x) name expr) Q E s := by
  obtain ⟨hh', g, d, t, os⟩ := s
  have L0 := I.type (M := model prog w)
  have L1 := looks_findIn (M := model prog w) X hga
  have L2 := looks_findIn (M := model prog w) X hk
  have L3 := looks_find (M := model prog w) X I hf
  unfold getAttr getAttrBy
  refine wpAny_bind (wpAny_mkText (wpAny_holding (wpAny_bind (L0.at (wpAny_bind (L1.at ?_))))))
  show wpAny _ _ (getAttrByItsOwn _ _ _ _ _ _) _ _ _
  unfold getAttrByItsOwn
  refine wpAny_bind ?_
  show wpAny _ _ (typeLookup (.ref C) "__getattr__") _ _ _
  refine L2.at ?_
  refine wpAny_bind (wpAny_attempt (wpAny_holding ?_))
  unfold callGetattribute
  rw [if_neg (by simp [onTheHeap])]
  unfold boundAndCalled
  rw [PySem.F.slot_list_getattribute.bind]
  refine wpAny_bind (wpAny_pure ?_)
  show wpAny _ _ (call (.builtin "list.__getattribute__") [.ref x, .str name t]) _ _ _
  refine call_acc X I hsub (nm := "__getattribute__") (by decide +kernel) (.inl (by decide +kernel)) (by decide +kernel) PySem.F.entry_list_ga (PySem.F.args_list_getattribute_2 _ _) ?_
  refine wpAny_bind (wpAny_pure (wpAny_bind (wpAny_pure (wpAny_bind (L0.at (wpAny_bind (L3.at ?_)))))))
  refine wpAny_pure ⟨v, rfl, ?_⟩
  show wpAny _ _ (handedOut v) _ _ _
  rw [handedOut_of hh]; exact wpAny_pure h

theorem getown_acc {name : Str} {expr : Bool} {v : Value} {attr : Option Value} {Q : Value → Shared → Prop} (F : Fr h₀ L s.heap m) (X₀ : K.In h₀) (I : InstAt s.heap x ox C (some (dictOf es n)))
    (hga : findIn K (.ref C) "__getattribute__" = some (some (.builtin "list.__getattribute__"))) (hk : findIn K (.ref C) "__getattr__" = some none) (hsub : subIn K (.ref C) (.type "list") = some true)
    (hh : hasDictIn K C = true) (ha : findIn K (.ref C) name = some attr) (hn : noGet K attr = true) (hl : getL name es = some (some v)) (hd : handedIn v = true) (h : Q v { s with toks := s.toks + 1 }) :
    wpAny (model prog w) A (getAttr (.ref x) name expr) Q E s :=
  get_acc (X₀.keeps F.keep) I hga hk hsub (findObj_own hh ha hn (by rw [lookIn_dict, hl])) hd h

theorem refuse_list (self : Value) (c : Addr) : refuseLoop self "__setattr__" [.ref c, .type "list", .type "object"] = pure () := by
  rw [refuseLoop_ref]; kernel_rfl

theorem osa_acc {R : Result → Shared → Prop} {name : Str} {tk : Tok} {v : Value} {dx : Addr} {cd : ClassData} {es' : List DictEntry} {n' : Nat} {pre post : List (Addr × Obj)} (F : Fr h₀ L s.heap m) (X : K.In s.heap) (N : News h₀ L s.heap (pre ++ (dx, dictOf es n) :: post)) (I : InstAt s.heap x ox C (some (dictOf es n))) (hd : ox.dict = some dx)
    (hc : clsIn K C = some cd) (hm : cd.mro = [.ref C, .type "list", .type "object"]) (hdc : cd.hasDict = true) (ht : findIn K (.ref C) name = some none)
    (hl : es.any (·.refKey) = false) (a : ∀ p ∈ pre, p.1 ≠ dx) (b : ∀ p ∈ post, p.1 ≠ dx) (e1 : putL name (PyData.keyHash w.params name) (.str name s.toks) v es = es') (e2 : putN name es n = n') (hz : es'.length ≤ 1000)
    (h : ∀ h', Fr h₀ L h' m → News h₀ L h' (pre ++ (dx, dictOf es' n') :: post) → R (.ok (.ret .none)) { s with heap := h', toks := s.toks + 1 }) :
    codeAny (model prog w) A (.call (.builtin "object.__setattr__") ⟨[.ref x, .str name tk, v], []⟩) R s := by
  have SF := PySem.F.store_object
  have hmro : Looks (model prog w) s.heap (mroOf (.ref C)) cd.mro := (looks_clsIn X hc).andThen .now
  have hin : Looks (model prog w) s.heap (isInstance (.ref x) (.type "object")) true :=
    I.type.andThen (looks_mroIn X (by unfold mroIn; rw [hc, Option.bind_some, hm]; rfl))
  refine codeAny_call_builtin SF.slot.plain SF.entry ?_
  refine @check_slot (model prog w) _ _ s "object.__setattr__" "object" "__setattr__" (.ref x) [.str name tk, v] [] _ SF.kind SF.split hin (SF.args (.ref x) (.str name tk) v) ?_
  rw [osa_eq, refuse_eq]
  refine wpAny_bind (wpAny_bind (I.type.here (wpAny_bind (hmro.here ?_))))
  rw [hm, refuse_list]
  refine wpAny_pure (wpAny_bind (I.type.here (wpAny_bind ((looks_findIn X ht).here (wpAny_bind (wpAny_pure ?_))))))
  show wpAny _ _ (Builtin.ObjectAttr.storeInOwnDict (.ref x) (.ref C) (.str name tk) name v false) _ _ s
  have D := (N (dx, dictOf es n) (List.mem_append.mpr (.inr (.head _)))).1
  obtain ⟨U1, U2⟩ := news_upd (f := Obj.putName name (PyData.keyHash w.params name) (.str name s.toks) v) F N a b (by rw [putName_dict, e1, e2]) rfl
  have D' := (U2 (dx, dictOf es' n') (List.mem_append.mpr (.inr (.head _)))).1
  have hx := I.at_
  have hcl := I.cls
  obtain ⟨oc, odi, oda, osl⟩ := ox
  dsimp only at hcl hd
  subst hcl hd
  unfold Builtin.ObjectAttr.storeInOwnDict
  refine wpAny_bind (m := ownStreamTells (.ref x) (.ref C)) (wpAny_pure ?_)
  rw [if_neg (by rw [beq_eq_false_iff_ne.mpr (by intro q; cases q)]; exact Bool.false_ne_true)]
  refine wpAny_bind (m := Builtin.ObjectAttr.ownDictForStores (.ref x)) (wpAny_bind (wpAny_loadPart hx (wpAny_bind ((looks_clsIn X hc).here ?_))))
  rw [hdc]
  refine wpAny_pure (a := some dx) (wpAny_bind (wpAny_pure (wpAny_bind ?_)))
  unfold nsSet
  refine wpAny_bind (wpAny_bind (wpAny_askSetting (wpAny_pure (wpAny_bind (wpAny_mkText (wpAny_bind (wpAny_loadPart D ?_)))))))
  dsimp only
  have c : (!es.toArray.any (·.key.isStr name) && es.toArray.any (·.refKey)) = false := by
    rw [← Array.any_toList (as := es.toArray) (p := fun e => e.refKey)]
    simp only [hl, Bool.and_false]
  rw [aRefKeyMayBeTheName_at, c]
  refine wpAny_updatePart D ?_
  refine wpAny_bind (wpAny_lookBehind D' (pastItsLine_dict (by rw [List.size_toArray, sizeLine_eq]; omega)) ?_)
  exact wpAny_pure (h _ U1 U2)

theorem set_acc {name : Str} {v : Value} {dx : Addr} {cd : ClassData} {es' : List DictEntry} {n' : Nat} {news' : List (Addr × Obj)} {Q : Unit → Shared → Prop} (F : Fr h₀ L s.heap m) (X₀ : K.In h₀) (N : News h₀ L s.heap news) (I : InstAt s.heap x ox C (some (dictOf es n))) (hd : ox.dict = some dx)
    (hs : findIn K (.ref C) "__setattr__" = some (some (.builtin "object.__setattr__"))) (hc : clsIn K C = some cd) (hm : cd.mro = [.ref C, .type "list", .type "object"]) (hdc : cd.hasDict = true) (ht : findIn K (.ref C) name = some none)
    (hl : es.any (·.refKey) = false) (e : (putL name (PyData.keyHash w.params name) (.str name (s.toks + 1)) v es, putN name es n) = (es', n')) (U : Upd dx (dictOf es n) (dictOf es' n') news news') (hz : es'.length ≤ 1000)
    (h : ∀ h', Fr h₀ L h' m → News h₀ L h' news' → Q () { s with heap := h', toks := s.toks + 2 }) :
    wpAny (model prog w) A (setAttr (.ref x) name v) Q E s := by
  obtain ⟨pre, post, rfl, rfl, a, b⟩ := U.split
  obtain ⟨e1, e2⟩ := Prod.mk.inj e
  exact set_plain (X₀.keeps F.keep) I hs (osa_acc (s := { s with toks := s.toks + 1 }) F (X₀.keeps F.keep) N I hd hc hm hdc ht hl a b e1 e2 hz fun h' F' N' => h h' F' N')

theorem append_acc {its : Array Value} {k : Nat} {v : Value} {dx : Addr} {od : Obj} {news' : List (Addr × Obj)} {Q : Value → Shared → Prop} (F : Fr h₀ L s.heap m) (X₀ : K.In h₀) (N : News h₀ L s.heap news) (hd : (dx, od) ∈ news)
    (hsub : subIn K (.ref C) (.type "list") = some true)
    (U : Upd x ⟨.ref C, some dx, .seq its k, #[]⟩ ⟨.ref C, some dx, .seq (its.push v) (k + 1), #[]⟩ news news')
    (h : ∀ h', Fr h₀ L h' m → News h₀ L h' news' → Q .none { s with heap := h' }) (hz : its.size ≤ sizeLine) : wpAny (model prog w) A (call (.builtin "list.append") [.ref x, v]) Q E s := by
  obtain ⟨pre, post, rfl, rfl, a, b⟩ := U.split
  have z := N (x, _) (List.mem_append.mpr (.inr (.head _)))
  refine call_acc (X₀.keeps F.keep) (inst_acc N (List.mem_append.mpr (.inr (.head _))) hd) hsub (nm := "append") (by decide +kernel) (.inr (by decide +kernel)) (by decide +kernel) entry_list_append (args_list_append _ _) ?_
  show wpAny _ _ (updateSeq x (·.push v) >>= fun _ => ret .none) _ _ s
  refine wpAny_bind (wpAny_updateSeq z.1 rfl (wpAny_pure ⟨.none, rfl, ?_⟩) hz (by rw [Array.size_push]; omega))
  have hs : Heap.SameBut x s.heap (s.heap.update x (Obj.mapSeq (·.push v))) := Heap.SameBut.update ..
  refine h _ (F.change hs z.2.1 z.2.2) (news_set N a b hs ?_)
  have := Heap.get?_update_self (Obj.mapSeq (·.push v)) z.1 rfl
  rw [this]
  simp [Obj.mapSeq]
end
noncomputable abbrev BG := { g : Array GenState // AllBare g }
end Mine
end
section
open PySem PySem.W PyProof.Rows PySem.Calls
set_option maxHeartbeats 8000000
namespace Mine
theorem wd_get (id : String) (nm : Str) (x C : Addr) (hid : id = "list.__len__" ∧ nm = "__len__" ∨ id = "list.__init__" ∧ nm = "__init__") :
    Builtin.«wrapper_descriptor.__get__» ⟨[.builtin id, .ref x, .ref C], []⟩ = ((isInstance (.ref x) (.type "list") >>= fun b =>
      (if !b then (rule "descr.get.wrong-instance" >>= fun _ => typeName (.type "list") >>= fun a => typeNameOf (.ref x) >>= fun c => raiseError "TypeError" s!"descriptor '{nm.toString}' for '{a}' objects doesn't apply to a '{c}' object") else pure ())) >>= fun _ =>
      newFields "method-wrapper" [.builtin id, .ref x] >>= fun v => ret v) := by
  rcases hid with ⟨rfl, rfl⟩ | ⟨rfl, rfl⟩
  · kernel_rfl
  · kernel_rfl
theorem md_get (x C : Addr) :
    Builtin.«method_descriptor.__get__» ⟨[.builtin "list.pop", .ref x, .ref C], []⟩ = ((isInstance (.ref x) (.type "list") >>= fun b =>
      (if !b then (rule "descr.get.wrong-instance" >>= fun _ => typeName (.type "list") >>= fun a => typeNameOf (.ref x) >>= fun c => raiseError "TypeError" s!"descriptor '{("pop" : Str).toString}' for '{a}' objects doesn't apply to a '{c}' object") else pure ())) >>= fun _ =>
      newFields "builtin_function_or_method" [.builtin "list.pop", .ref x] >>= fun v => ret v) := by
  kernel_rfl
theorem slot_wd_get : Slot "wrapper_descriptor" "__get__" "wrapper_descriptor.__get__" :=
  .of (owner := "wrapper_descriptor") (n := "__get__") (by rw [typeLookup_type, builtinLookup_eq_fast]; kernel_rfl) (by decide +kernel) (by decide +kernel) (by decide +kernel) (by first | exact .inl (by decide +kernel) | exact .inr (by decide +kernel)) (by rw [isSubtype_type]; kernel_rfl)
theorem slot_md_get : Slot "method_descriptor" "__get__" "method_descriptor.__get__" :=
  .of (owner := "method_descriptor") (n := "__get__") (by rw [typeLookup_type, builtinLookup_eq_fast]; kernel_rfl) (by decide +kernel) (by decide +kernel) (by decide +kernel) (by first | exact .inl (by decide +kernel) | exact .inr (by decide +kernel)) (by rw [isSubtype_type]; kernel_rfl)
theorem entry_wd_get : entryFor table "wrapper_descriptor.__get__" = some Builtin.«wrapper_descriptor.__get__» := entryFor_of_tree (by kernel_rfl)
theorem entry_md_get : entryFor table "method_descriptor.__get__" = some Builtin.«method_descriptor.__get__» := entryFor_of_tree (by kernel_rfl)
theorem args_wd_get (a b c : Value) : argsOk "wrapper_descriptor.__get__" ⟨[a, b, c], []⟩ := by unfold argsOk; kernel_rfl
theorem args_md_get (a b c : Value) : argsOk "method_descriptor.__get__" ⟨[a, b, c], []⟩ := by unfold argsOk; kernel_rfl
theorem type_len : typeOf (.builtin "list.__len__") = pure (.type "wrapper_descriptor") := by show builtinType _ = _; rw [builtinType_eq_fast]; kernel_rfl
theorem type_init : typeOf (.builtin "list.__init__") = pure (.type "wrapper_descriptor") := by show builtinType _ = _; rw [builtinType_eq_fast]; kernel_rfl
theorem type_pop : typeOf (.builtin "list.pop") = pure (.type "method_descriptor") := by show builtinType _ = _; rw [builtinType_eq_fast]; kernel_rfl

section
variable {prog : Program} {w : World} {M : Model} {A : Around} {E : Value → Shared → Prop} {h : Heap} {g : Array GenState} {d : Drawn} {t : Nat} {os : OsState}

noncomputable abbrev boundBi (cls id : String) (x : Addr) : Obj := { cls := .type cls, data := .fields #[.builtin id, .ref x] }

theorem call_wd_get {id : String} {nm : Str} {x C : Addr} {Q : Value → Shared → Prop} (hid : id = "list.__len__" ∧ nm = "__len__" ∨ id = "list.__init__" ∧ nm = "__init__") (hi : Looks (model prog w) h (isInstance (.ref x) (.type "list")) true)
    (hq : Q (.ref h.objs.size) ⟨h.push (boundBi "method-wrapper" id x), g, d, t, os⟩) :
    wpAny (model prog w) A (call (.builtin "wrapper_descriptor.__get__") [.builtin id, .ref x, .ref C]) Q E ⟨h, g, d, t, os⟩ := by
  have hT : (⟨h, g, d, t, os⟩ : Shared).TypeIs (.builtin id) "wrapper_descriptor" := by
    rcases hid with ⟨rfl, -⟩ | ⟨rfl, -⟩
    · exact type_len
    · exact type_init
  refine wpAny_call_entry slot_wd_get hT entry_wd_get ?_ (args_wd_get _ _ _)
  rw [wd_get id nm x C hid]
  refine wpAny_bind (wpAny_bind (hi.at ?_))
  simp only [Bool.not_true, Bool.false_eq_true, if_false]
  refine wpAny_pure ?_
  exact wpAny_bind (wpAny_newObj_type (wpAny_pure ⟨_, rfl, hq⟩) (by first | exact True.intro | simp [sizeOk]))
theorem call_md_get {x C : Addr} {Q : Value → Shared → Prop} (hi : Looks (model prog w) h (isInstance (.ref x) (.type "list")) true)
    (hq : Q (.ref h.objs.size) ⟨h.push (boundBi "builtin_function_or_method" "list.pop" x), g, d, t, os⟩) :
    wpAny (model prog w) A (call (.builtin "method_descriptor.__get__") [.builtin "list.pop", .ref x, .ref C]) Q E ⟨h, g, d, t, os⟩ := by
  have hT : (⟨h, g, d, t, os⟩ : Shared).TypeIs (.builtin "list.pop") "method_descriptor" := type_pop
  refine wpAny_call_entry slot_md_get hT entry_md_get ?_ (args_md_get _ _ _)
  rw [md_get x C]
  refine wpAny_bind (wpAny_bind (hi.at ?_))
  simp only [Bool.not_true, Bool.false_eq_true, if_false]
  refine wpAny_pure ?_
  exact wpAny_bind (wpAny_newObj_type (wpAny_pure ⟨_, rfl, hq⟩) (by first | exact True.intro | simp [sizeOk]))

theorem super_ga_bi {so D x C : Addr} {id gid tyn : String} {o' : Obj} {l₀ l : List Value} {K : Frag} {name : Str} {tk : Tok} {Q : Fin → Shared → Prop}
    (hso : h.get? so = some { cls := .type "super", dict := none, data := .fields #[.ref D, .ref x, .ref C], slots := #[] }) (hno : Looks (model prog w) h (opaqueClassAbove (.ref C)) none)
    (hC : Looks (model prog w) h (mroOf (.ref C)) l₀) (hl : (l₀.dropWhile (· != .ref D)).drop 1 = l) (X : K.In h)
    (hf : alongIn K name l = some (some (.builtin id))) (hty : typeOf (.builtin id) = pure (.type tyn)) (hlk : typeLookup (.type tyn) "__get__" = pure (some (.builtin gid))) (hxC : x ≠ C) (hn : (name == ("__class__" : Str)) = false)
    (hg : ∀ (A : Around) (Q : Value → Shared → Prop) (E : Value → Shared → Prop), Q (.ref h.objs.size) ⟨h.push o', g, d, t, os⟩ → wpAny (model prog w) A (call (.builtin gid) [.builtin id, .ref x, .ref C]) Q E ⟨h, g, d, t, os⟩)
    (hq : Q (.done (.ret (.ref h.objs.size))) ⟨h.push o', g, d, t, os⟩) :
    wpAny (model prog w) A (Builtin.«super.__getattribute__» ⟨[.ref so, .str name tk], []⟩) Q E ⟨h, g, d, t, os⟩ := by
  have hne : (Value.ref x == Value.ref C) = false := by simp [hxC]
  have hdt : ({ cls := .type "super", dict := none, data := .fields #[.ref D, .ref x, .ref C], slots := #[] } : Obj).data = .fields #[.ref D, .ref x, .ref C] := rfl
  have f0 : (#[.ref D, .ref x, .ref C] : Array Value)[0]? = some (.ref D) := rfl
  have f1 : (#[.ref D, .ref x, .ref C] : Array Value)[1]? = some (.ref x) := rfl
  have f2 : (#[.ref D, .ref x, .ref C] : Array Value)[2]? = some (.ref C) := rfl
  unfold Builtin.«super.__getattribute__»
  repeat (first
    | (with_reducible refine wpAny_field hso hdt f0 ?_) | (with_reducible refine wpAny_field hso hdt f1 ?_) | (with_reducible refine wpAny_field hso hdt f2 ?_)
    | (with_reducible refine ks_wpAny_notOpaque hno ?_)
    | (with_reducible refine Looks.at hC ?_; rw [hl])
    | (refine ks_forIn_along X (fun _ _ => rfl) rfl ?_ hf)
    | (with_reducible refine wpAny_of_eq hty ?_)
    | (with_reducible refine wpAny_of_eq hlk ?_)
    | (with_reducible refine hg _ _ _ ?_)
    | (with_reducible refine ⟨_, rfl, ?_⟩)
    | (simp only [hn, hne, Bool.or_false, Bool.false_eq_true, if_false])
    | wp_step
    | dsimp only)
  all_goals exact hq

theorem getMethod_super_bi {so D x C : Addr} {id gid tyn : String} {o' : Obj} {l₀ l : List Value} {K : Frag} {name : Str} {pl : Sem Bool} {Q : Value × List Value → Shared → Prop}
    (hso : h.get? so = some { cls := .type "super", dict := none, data := .fields #[.ref D, .ref x, .ref C], slots := #[] }) (hno : Looks (model prog w) h (opaqueClassAbove (.ref C)) none)
    (hC : Looks (model prog w) h (mroOf (.ref C)) l₀) (hl : (l₀.dropWhile (· != .ref D)).drop 1 = l) (X : K.In h)
    (hf : alongIn K name l = some (some (.builtin id))) (hty : typeOf (.builtin id) = pure (.type tyn)) (hlk : typeLookup (.type tyn) "__get__" = pure (some (.builtin gid))) (hxC : x ≠ C) (hn : (name == ("__class__" : Str)) = false)
    (hg : ∀ (t : Nat) (A : Around) (Q : Value → Shared → Prop) (E : Value → Shared → Prop), Q (.ref h.objs.size) ⟨h.push o', g, d, t, os⟩ → wpAny (model prog w) A (call (.builtin gid) [.builtin id, .ref x, .ref C]) Q E ⟨h, g, d, t, os⟩)
    (hq : Q (.ref h.objs.size, []) ⟨h.push o', g, d, t + 1, os⟩) :
    wpAny (model prog w) A (getMethod (.ref so) name pl) Q E ⟨h, g, d, t, os⟩ := by
  have hlk' := PySem.F.ks_slot_super_ga.lookup
  have hcan := PySem.F.ks_canon_super_ga
  have hT : ∀ t', (⟨h, g, d, t', os⟩ : Shared).TypeIs (.ref so) "super" := fun _ => ⟨_, hso, rfl⟩
  unfold getMethod
  refine wpAny_bind (wpAny_specialOf (hT _) hlk' ?_)
  show wpAny _ _ (if (Manifest.canonical "super.__getattribute__" != "object.__getattribute__") = true then _ else _) _ _ _
  rw [if_pos hcan]
  unfold getAttr getAttrBy
  refine wpAny_bind (wpAny_bind (wpAny_mkText (wpAny_holding (wpAny_bind (wpAny_typeOf (hT _) (wpAny_bind (wpAny_of_eq hlk' ?_)))))))
  show wpAny _ _ (getAttrByItsOwn (.ref so) (.str name t) (.type "super") (.builtin "super.__getattribute__") true false) _ _ _
  unfold getAttrByItsOwn hookBefore callGetattribute boundAndCalled
  refine wpAny_bind (wpAny_of_eq (show (if onTheHeap (.type "super") then typeLookup (.type "super") "__getattr__" else pure none) = pure none from rfl) ?_)
  refine wpAny_bind (wpAny_attempt (wpAny_holding ?_))
  show wpAny _ _ (bindSpecial (.builtin "super.__getattribute__") (.ref so) >>= _) _ _ _
  refine wpAny_bind (wpAny_of_eq (PySem.F.ks_slot_super_ga.bind _) ?_)
  refine wpAny_mono (Q := fun v s' => v = .ref h.objs.size ∧ s' = ⟨h.push o', g, d, t + 1, os⟩) (E := fun _ _ => False)
    (wpAny_call_entry PySem.F.ks_slot_super_ga (hT _) PySem.F.ks_entry_super_ga (super_ga_bi hso hno hC hl X hf hty hlk hxC hn (hg (t + 1)) ⟨_, rfl, rfl, rfl⟩) (PySem.F.ks_gaArgs_super _ _)) (fun v s' hv => ?_) fun _ _ z => z.elim
  obtain ⟨rfl, rfl⟩ := hv
  dsimp only
  exact wpAny_pure (wpAny_pure hq)

theorem callWith_bi {pos : Pos} {env : Env} {first : List Value} {q x : Addr} {cls id : String} {s : Shared} {Q : Value → Shared → Prop} (ho : s.heap.get? q = some (boundBi cls id x)) (hc : cls = "method-wrapper" ∨ cls = "builtin_function_or_method")
    (hq : wpAny M A (call (.ref q) (first ++ [])) Q E s) : wpAny M A (callWith pos (.ref q) first (backTo pos (starEach [] env)) []) Q E s :=
  callWith_of (P := fun h => h.get? q = some (boundBi cls id x)) rfl (fun h X => ⟨.machine, .inr (.inl rfl), (Looks.ld (part := none) X).andThen (by rcases hc with rfl | rfl <;> exact .now)⟩) (evalArgs_nil3 ⟨ho, hq⟩)

theorem call_bi {q x : Addr} {cls id : String} {b : Builtin} {args : List Value} {s : Shared} {Q : Value → Shared → Prop} (ho : s.heap.get? q = some (boundBi cls id x)) (hc : cls = "method-wrapper" ∨ cls = "builtin_function_or_method")
    (hck : ∀ (A : Around) (Q : Unit → Shared → Prop) (E : Value → Shared → Prop), Q () s → wpAny (model prog w) A (checkBoundCall id ⟨.ref x :: args, []⟩) Q E s) (hp : plainId id = true) (hb : entryFor table id = some b)
    (hq : wpAny (model prog w) A.in1 (b ⟨.ref x :: args, []⟩) (fun fin s' => ∃ v, fin = .done (.ret v) ∧ Q v s') E s) : wpAny (model prog w) A (call (.ref q) args) Q E s := by
  refine wpAny_call (codeAny_of_tree ?_)
  show wpAny _ _ (callAny (.ref q) _) _ _ _
  obtain ⟨hh, g, dr, t, os⟩ := s
  dsimp only at ho
  refine nd_load ho ?_
  have key : wpAny (model prog w) A.in1 (checkBoundCall id ⟨.ref x :: args, []⟩ >>= fun _ => again (.builtin id ⟨.ref x :: args, []⟩)) (fun fin s' => match fin with | .done f => (match (Except.ok f : Result) with | .ok (.ret v) => Q v s' | .ok _ => False | .error e => E e s') | .again c' => c'.quiet = true ∧ codeAny (model prog w) A c' (fun r s' => match r with | .ok (.ret v) => Q v s' | .ok _ => False | .error e => E e s') s') (fun e s' => E e s') ⟨hh, g, dr, t, os⟩ := by
    refine wpAny_bind (hck _ _ _ (wpAny_pure ⟨plainId_quiet hp _, codeAny_builtin hb ?_⟩))
    rw [Around.under_plainId hp]
    exact wpAny_mono hq (fun fin s' z => by obtain ⟨v, rfl, hv⟩ := z; exact hv) fun _ _ z => z
  rcases hc with rfl | rfl <;> exact key

theorem len_bi {q x C dx : Addr} {its : Array Value} {k : Nat} {sl : Array (Option Value)} {s : Shared} {Q : Value → Shared → Prop} (ho : s.heap.get? q = some (boundBi "method-wrapper" "list.__len__" x)) (hx : s.heap.get? x = some ⟨.ref C, some dx, .seq its k, sl⟩)
    (hq : Q (.int its.size s.toks) { s with toks := s.toks + 1 }) : wpAny (model prog w) A (call (.ref q) []) Q E s := by
  refine call_bi ho (.inl rfl) (fun A Q E z => ?_) (by decide +kernel) entry_list_len ?_
  · rw [show checkBoundCall "list.__len__" ⟨[.ref x], []⟩ = pure () by kernel_rfl]; exact wpAny_pure z
  · show wpAny _ _ (seqSize x >>= fun n => mkInt n >>= fun v => ret v) _ _ _
    refine wpAny_bind ?_
    unfold seqSize
    refine wpAny_bind (wpAny_loadPart hx ?_)
    exact wpAny_pure (wpAny_bind (wpAny_mkInt (wpAny_pure ⟨_, rfl, hq⟩)))

theorem init_bi {q x C dx : Addr} {its : Array Value} {k : Nat} {sl : Array (Option Value)} {s : Shared} {Q : Value → Shared → Prop} (ho : s.heap.get? q = some (boundBi "method-wrapper" "list.__init__" x)) (hx : s.heap.get? x = some ⟨.ref C, some dx, .seq its k, sl⟩)
    (hz : its.size ≤ sizeLine)
    (hq : Q .none { s with heap := s.heap.update x (Obj.mapSeq fun _ => #[]) }) : wpAny (model prog w) A (call (.ref q) []) Q E s := by
  refine call_bi ho (.inl rfl) (fun A Q E z => ?_) (by decide +kernel) (entryFor_of_tree (b := Builtin.«list.__init__») (by kernel_rfl)) ?_
  · rw [show checkBoundCall "list.__init__" ⟨[.ref x], []⟩ = pure () by kernel_rfl]; exact wpAny_pure z
  · show wpAny _ _ (Builtin.List.listItems (.ref x) >>= fun old => updateSeq x (fun _ => #[]) >>= fun _ => letGo old.toList.reverse >>= fun _ => ret .none) _ _ _
    refine wpAny_bind (wpAny_listItems hx rfl (wpAny_bind (wpAny_updateSeq hx rfl (wpAny_bind (wpAny_letGo (wpAny_pure ⟨_, rfl, hq⟩))) hz (by simp))))

theorem pop_check {K : Frag} {x C : Addr} {ox : Obj} {od : Option Obj} {cd : ClassData} {s : Shared} {Q : Unit → Shared → Prop} (X : K.In s.heap) (I : InstAt s.heap x ox C od) (hm : subIn K (.ref C) (.type "module") = some false) (hc : clsIn K C = some cd) (hqn : cd.qualname = Str.ofString "_Accumulator") (ht : typeIn K (.ref C) = some (.type "type"))
    (hq : Q () s) : wpAny (model prog w) A (checkBoundCall "list.pop" ⟨[.ref x], []⟩) Q E s := by
  have hk : builtinKind "list.pop" = some .method := by decide +kernel
  obtain ⟨hh, g, d, t, os⟩ := s
  have L0 := I.type (M := model prog w)
  have L1 := looks_subIn (M := model prog w) X hm
  have L2 := looks_clsIn (M := model prog w) X hc
  have L3 := looks_typeIn (M := model prog w) X ht
  unfold checkBoundCall
  cases hsig : Manifest.signature? "list.pop" with
  | none => exact wpAny_pure hq
  | some sig =>
    have hargs : Bind.checkArgs "list.pop" { sig with full := s!"{(Str.ofString "_Accumulator").toString}.{Bind.lastOf "list.pop"}" } ⟨[.ref x], []⟩ = pure () := by
      have e : (Manifest.signature? "list.pop").map (fun sig => Bind.checkArgs "list.pop" { sig with full := s!"{(Str.ofString "_Accumulator").toString}.{Bind.lastOf "list.pop"}" } ⟨[.ref x], []⟩) = some (pure ()) := by kernel_rfl
      rw [hsig] at e
      exact Option.some.inj e
    simp only [hk]
    refine wpAny_bind (m := isInstance (.ref x) (.type "module")) (wpAny_bind (L0.at (L1.at ?_)))
    rw [if_neg (by decide +kernel)]
    refine wpAny_bind (m := isType (.ref x)) (ks_wpAny_isType_inst I.at_ (fun c e => by have := I.no; unfold notCls at this; rw [e] at this; cases this) ?_)
    simp only [Bool.false_eq_true, if_false]
    refine wpAny_bind (L0.at ?_)
    refine wpAny_bind (m := classData C) (L2.at ?_)
    refine wpAny_bind (L3.at ?_)
    rw [if_pos (by decide +kernel)]
    rw [hqn, hargs]
    exact wpAny_pure hq

theorem erase_last (its : Array Value) (v : Value) : (its.push v).eraseIdxIfInBounds its.size = its := by
  unfold Array.eraseIdxIfInBounds
  rw [dif_pos (by simp)]
  apply Array.ext'
  rw [Array.toList_eraseIdx, Array.toList_push]
  have : its.size = its.toList.length := rfl
  rw [this, List.eraseIdx_append_of_length_le (Nat.le_refl _)]
  simp

theorem pop_bi {K : Frag} {q x C dx : Addr} {its : Array Value} {v : Value} {k : Nat} {sl : Array (Option Value)} {od : Obj} {cd : ClassData} {s : Shared} {Q : Value → Shared → Prop} (X : K.In s.heap) (ho : s.heap.get? q = some (boundBi "builtin_function_or_method" "list.pop" x)) (I : InstAt s.heap x ⟨.ref C, some dx, .seq (its.push v) k, sl⟩ C (some od))
    (hm : subIn K (.ref C) (.type "module") = some false) (hc : clsIn K C = some cd) (hqn : cd.qualname = Str.ofString "_Accumulator") (ht : typeIn K (.ref C) = some (.type "type")) (hz : (its.push v).size ≤ sizeLine)
    (hq : Q v { s with heap := s.heap.update x (Obj.mapSeq (·.eraseIdxIfInBounds its.size)) }) : wpAny (model prog w) A (call (.ref q) []) Q E s := by
  have hx := I.at_
  refine call_bi ho (.inr rfl) (fun A Q E z => pop_check X I hm hc hqn ht z) (by decide +kernel) (entryFor_of_tree (b := Builtin.«list.pop») (by kernel_rfl)) ?_
  unfold Builtin.«list.pop»
  refine wpAny_bind (wpAny_pure ?_)
  show wpAny _ _ (pure (-1 : Int) >>= _) _ _ _
  refine wpAny_bind (wpAny_pure ?_)
  dsimp only
  rw [if_neg (by decide +kernel)]
  refine wpAny_bind (wpAny_listItems hx rfl ?_)
  rw [if_neg (by simp)]
  have e : ((seqIndex? (-1) (its.push v).size).bind fun k => (its.push v)[k]?.map (k, ·)) = some (its.size, v) := by
    have : seqIndex? (-1) (its.push v).size = some its.size := by
      unfold seqIndex?
      simp only [Array.size_push]
      split <;> simp_all <;> omega
    rw [this]; simp
  rw [e]
  refine wpAny_bind (wpAny_updateSeq hx rfl (wpAny_pure ⟨_, rfl, hq⟩) hz ?_)
  rw [erase_last]
  simp at hz
  omega
end
end Mine
end
section
open PySem PySem.W PyProof.Rows PySem.Calls
set_option maxHeartbeats 8000000
namespace Mine
section
variable {prog : Program} {w : World} {A : Around} {E : Value → Shared → Prop} {s : Shared} {h₀ : Heap} {L : Addr} {m mg mb : Str → Option Value} {news : List (Addr × Obj)} {K : Frag} {p : Program} {loose : List Str} {mean : ExcName → Option Value} {x C D so q dx : Addr} {ox : Obj} {odx : Option Obj} {b₀ : Heap} {S : List (Addr × Obj)}

theorem enter_super {R : Result → Shared → Prop} {name qual : Str} {params : Arguments} {body : List Stmt} {scope : Scope} {cc : Addr} {dV kV doc pm cdv ct oc : Value} {an od : Option Addr} {osl : Array (Option Value)} {f : Addr} {args : Args} {binds : List (Str × Value)}
    (O : Own b₀ s.heap S) (X₀ : K.In b₀) (T : Top p loose mean mg mb b₀)
    (ho : K.lookup f = some ⟨oc, od, .func (ksFn name qual params body scope dV kV doc pm an cdv ct cc), osl⟩) (hcd : codeIn K cdv qual = true) (hroom : A.depth < recursionLimit)
    (hbind : BindsTo s (ksFn name qual params body scope dV kV doc pm an cdv ct cc) args binds) (hloc : ∀ y ∈ binds, scope.names.lookup y.1 = some .local)
    (h : ∀ g L h₁, (∀ b o, b₀.get? b = some o → g.get? b = some o) → Fr g L h₁ (fun y => binds.reverse.lookup y) → News g L h₁ S → K.In g → Top p loose mean mg mb g →
      (∀ b o, s.heap.get? b = some o → (∀ p ∈ S, p.1 ≠ b) → g.get? b = some o) → (∀ p ∈ S, p.1 < L) →
      _root_.PySem.wpAt (model prog w) (A.deeper (ksEnv qual scope L f cdv cc)) (.func body (ksEnv qual scope L f cdv cc)) (execs body (ksEnv qual scope L f cdv cc))
        (fun fl s' => R (.ok (.ret (match fl with | .ret v => v | _ => .none))) s') (fun _ _ => False) { s with heap := h₁, toks := s.toks + binds.length })
    (hco : scope.isCoroutine = false) (hgen : scope.isGenerator = false) (hk : scope.kind = .function)
    (hcell : ∀ x ∈ scope.names, x.2 ≠ .cell) : codeAny (model prog w) A (.call (.ref f) args) R s := by
  have nm : ∀ b o, b₀.get? b = some o → b ∉ S.map (·.1) := fun b o e q => by
    obtain ⟨p, hp, rfl⟩ := List.mem_map.mp q
    rw [(O.mem p hp).2] at e; cases e
  have st : ∀ b o, b₀.get? b = some o → (hideAll s.heap (S.map (·.1))).get? b = some o := fun b o e => hideAll_get _ (O.keep b o e) (nm b o e)
  refine ks_codeAny_call_defAt (fd := ksFn name qual params body scope dV kV doc pm an cdv ct cc) (body := body) (binds := binds) hroom (O.keep _ _ (X₀ _ _ ho)) rfl (T.nolimit.keeps O.keep) (codeRec_of (X₀.keeps O.keep) hcd) rfl hbind hcell hloc (fun h₁ hns hk₁ => ?_) hco hgen hk
  exact ks_wpAt_mono (h (hideAll s.heap (S.map (·.1))) s.heap.objs.size h₁ st ⟨hns, fun b o e => hk₁ b o (of_hideAll _ e), Nat.le_of_eq (hideAll_size _ _)⟩
    (fun p hp => ⟨hk₁ _ _ (O.mem p hp).1, Nat.ne_of_lt (Heap.lt_size (O.mem p hp).1), hideAll_none _ (List.mem_map_of_mem hp)⟩) (X₀.keeps st) (T.keeps st)
    (fun b o e n => hideAll_get _ e (notin_map n)) (fun p hp => Heap.lt_size (O.mem p hp).1)) (fun _ _ z => z) fun _ _ z => z.elim

theorem super_look {name : Str} {id : String} {pl : Sem Bool} {tyn gid cls : String} {Q : Value × List Value → Shared → Prop} (F : Fr h₀ L s.heap m) (X₀ : K.In h₀) (N : News h₀ L s.heap news) (hso : (so, ks_superObj D x C) ∈ news) (I : InstAt s.heap x ox C odx) (ho : nsIn K cStatics "thirdparty.any" = some none)
    (hm : ks_superIn K C D name = some (some (.builtin id))) (hty : typeOf (.builtin id) = pure (.type tyn)) (hlk : typeLookup (.type tyn) "__get__" = pure (some (.builtin gid))) (hn : (name == ("__class__" : Str)) = false)
    (hg : ∀ (t : Nat) (A : Around) (Q : Value → Shared → Prop) (E : Value → Shared → Prop), Q (.ref s.heap.objs.size) ⟨s.heap.push (boundBi cls id x), s.gens, s.drawn, t, s.os⟩ → wpAny (model prog w) A (call (.builtin gid) [.builtin id, .ref x, .ref C]) Q E ⟨s.heap, s.gens, s.drawn, t, s.os⟩)
    (h : ∀ q h', Fr h₀ L h' m → News h₀ L h' ((q, boundBi cls id x) :: news) → (∀ p ∈ news, p.1 < q) → Q (.ref q, []) { s with heap := h', toks := s.toks + 1 }) : wpAny (model prog w) A (getMethod (.ref so) name pl) Q E s := by
  have X : K.In s.heap := X₀.keeps F.keep
  obtain ⟨hh, g, d, t, os⟩ := s
  cases hc : clsIn K C with
  | none => unfold ks_superIn at hm; rw [hc] at hm; cases hm
  | some cd =>
    unfold ks_superIn at hm
    rw [hc] at hm
    refine getMethod_super_bi (N _ hso).1 (looks_opaque X ho) (l₀ := cd.mro) ?_ rfl X hm hty hlk (ks_ne X I hc) hn hg ?_
    · exact fun A Q E s k q => wpAny_bind ((looks_clsIn X hc) A _ E s k (wpAny_pure q))
    · obtain ⟨F', N', l'⟩ := ks_newsPush (s := ⟨hh, g, d, t, os⟩) (o := boundBi cls id x) F N rfl (Heap.get?_push_at rfl rfl) (fun b o e => Heap.get?_push_of_some _ e)
      exact h _ _ F' N' l'

theorem inst_of {K : Frag} (X : K.In s.heap) (I : InstAt s.heap x ox C odx) (hsub : subIn K (.ref C) (.type "list") = some true) : Looks (model prog w) s.heap (isInstance (.ref x) (.type "list")) true := I.type.andThen (looks_subIn X hsub)

theorem super_wd {name nm : Str} {id : String} {pl : Sem Bool} {Q : Value × List Value → Shared → Prop} (F : Fr h₀ L s.heap m) (X₀ : K.In h₀) (N : News h₀ L s.heap news) (hso : (so, ks_superObj D x C) ∈ news) (I : InstAt s.heap x ox C odx) (ho : nsIn K cStatics "thirdparty.any" = some none)
    (hm : ks_superIn K C D name = some (some (.builtin id))) (hid : id = "list.__len__" ∧ nm = "__len__" ∨ id = "list.__init__" ∧ nm = "__init__") (hsub : subIn K (.ref C) (.type "list") = some true) (hn : (name == ("__class__" : Str)) = false)
    (h : ∀ q h', Fr h₀ L h' m → News h₀ L h' ((q, boundBi "method-wrapper" id x) :: news) → (∀ p ∈ news, p.1 < q) → Q (.ref q, []) { s with heap := h', toks := s.toks + 1 }) : wpAny (model prog w) A (getMethod (.ref so) name pl) Q E s := by
  refine super_look (tyn := "wrapper_descriptor") (gid := "wrapper_descriptor.__get__") F X₀ N hso I ho hm ?_ slot_wd_get.lookup hn (fun t A Q E z => ?_) h
  · rcases hid with ⟨rfl, -⟩ | ⟨rfl, -⟩
    · exact type_len
    · exact type_init
  · exact call_wd_get hid (inst_of (X₀.keeps F.keep) I hsub) z

theorem super_md {name : Str} {pl : Sem Bool} {Q : Value × List Value → Shared → Prop} (F : Fr h₀ L s.heap m) (X₀ : K.In h₀) (N : News h₀ L s.heap news) (hso : (so, ks_superObj D x C) ∈ news) (I : InstAt s.heap x ox C odx) (ho : nsIn K cStatics "thirdparty.any" = some none)
    (hm : ks_superIn K C D name = some (some (.builtin "list.pop"))) (hsub : subIn K (.ref C) (.type "list") = some true) (hn : (name == ("__class__" : Str)) = false)
    (h : ∀ q h', Fr h₀ L h' m → News h₀ L h' ((q, boundBi "builtin_function_or_method" "list.pop" x) :: news) → (∀ p ∈ news, p.1 < q) → Q (.ref q, []) { s with heap := h', toks := s.toks + 1 }) : wpAny (model prog w) A (getMethod (.ref so) name pl) Q E s :=
  super_look (tyn := "method_descriptor") (gid := "method_descriptor.__get__") F X₀ N hso I ho hm type_pop slot_md_get.lookup hn (fun t A Q E z => call_md_get (inst_of (X₀.keeps F.keep) I hsub) z) h

theorem callWith_bound {M : Model} {pos : Pos} {env : Env} {first : List Value} {cls id : String} {Q : Value → Shared → Prop} (N : News h₀ L s.heap news) (hq : (q, boundBi cls id x) ∈ news) (hc : cls = "method-wrapper" ∨ cls = "builtin_function_or_method")
    (h : wpAny M A (call (.ref q) (first ++ [])) Q E s) : wpAny M A (callWith pos (.ref q) first (backTo pos (starEach [] env)) []) Q E s := callWith_bi (N _ hq).1 hc h

theorem call_len {its : Array Value} {k : Nat} {sl : Array (Option Value)} {Q : Value → Shared → Prop} (N : News h₀ L s.heap news) (hq : (q, boundBi "method-wrapper" "list.__len__" x) ∈ news) (hx : (x, (⟨.ref C, some dx, .seq its k, sl⟩ : Obj)) ∈ news)
    (h : Q (.int its.size s.toks) { s with toks := s.toks + 1 }) : wpAny (model prog w) A (call (.ref q) []) Q E s := len_bi (N _ hq).1 (N _ hx).1 h

theorem call_pop {its : Array Value} {v : Value} {k : Nat} {od : Obj} {cd : ClassData} {news' : List (Addr × Obj)} {Q : Value → Shared → Prop} (F : Fr h₀ L s.heap m) (X₀ : K.In h₀) (N : News h₀ L s.heap news) (hq : (q, boundBi "builtin_function_or_method" "list.pop" x) ∈ news)
    (U : Upd x ⟨.ref C, some dx, .seq (its.push v) k, #[]⟩ ⟨.ref C, some dx, .seq its (k + 1), #[]⟩ news news') (hd : (dx, od) ∈ news)
    (hm : subIn K (.ref C) (.type "module") = some false) (hc : clsIn K C = some cd) (hqn : cd.qualname = Str.ofString "_Accumulator") (ht : typeIn K (.ref C) = some (.type "type")) (hz : (its.push v).size ≤ sizeLine)
    (h : ∀ h', Fr h₀ L h' m → News h₀ L h' news' → Q v { s with heap := h' }) : wpAny (model prog w) A (call (.ref q) []) Q E s := by
  obtain ⟨pre, post, rfl, rfl, a, b⟩ := U.split
  have z := N (x, _) (List.mem_append.mpr (.inr (.head _)))
  refine pop_bi (X₀.keeps F.keep) (N _ hq).1 (inst_acc N (List.mem_append.mpr (.inr (.head _))) hd) hm hc hqn ht hz ?_
  have hs : Heap.SameBut x s.heap (s.heap.update x (Obj.mapSeq (·.eraseIdxIfInBounds its.size))) := Heap.SameBut.update ..
  refine h _ (F.change hs z.2.1 z.2.2) (news_set N a b hs ?_)
  have := Heap.get?_update_self (Obj.mapSeq (·.eraseIdxIfInBounds its.size)) z.1 rfl
  rw [this]
  simp [Obj.mapSeq, erase_last]

theorem call_init {k : Nat} {news' : List (Addr × Obj)} {Q : Value → Shared → Prop} (F : Fr h₀ L s.heap m) (N : News h₀ L s.heap news) (hq : (q, boundBi "method-wrapper" "list.__init__" x) ∈ news)
    (U : Upd x ⟨.ref C, some dx, .seq #[] k, #[]⟩ ⟨.ref C, some dx, .seq #[] k, #[]⟩ news news')
    (h : ∀ h', Fr h₀ L h' m → News h₀ L h' news' → Q .none { s with heap := h' }) : wpAny (model prog w) A (call (.ref q) []) Q E s := by
  obtain ⟨pre, post, rfl, rfl, a, b⟩ := U.split
  have z := N (x, _) (List.mem_append.mpr (.inr (.head _)))
  refine init_bi (N _ hq).1 z.1 (by simp) ?_
  have hs : Heap.SameBut x s.heap (s.heap.update x (Obj.mapSeq fun _ => #[])) := Heap.SameBut.update ..
  refine h _ (F.change hs z.2.1 z.2.2) (news_set N a b hs ?_)
  have := Heap.get?_update_self (Obj.mapSeq fun _ => #[]) z.1 rfl
  rw [this]
  simp [Obj.mapSeq]
end
end Mine
end
section
open PySem PySem.W PyProof.Rows PySem.Calls
set_option maxHeartbeats 8000000
namespace Mine
inductive Ext (p : Addr × Obj) : List (Addr × Obj) → List (Addr × Obj) → Prop
  | head {r} : (∀ q ∈ r, q.1 ≠ p.1) → Ext p (p :: r) r
  | tail {q l r} : q.1 ≠ p.1 → Ext p l r → Ext p (q :: l) (q :: r)
theorem Ext.mem {p : Addr × Obj} {l r : List (Addr × Obj)} (h : Ext p l r) : p ∈ l := by
  induction h with
  | head _ => exact .head _
  | tail _ _ ih => exact .tail _ ih
theorem Ext.sub {p : Addr × Obj} {l r : List (Addr × Obj)} (h : Ext p l r) : ∀ q ∈ r, q ∈ l ∧ q.1 ≠ p.1 := by
  induction h with
  | head n => exact fun q hq => ⟨.tail _ hq, n q hq⟩
  | tail n _ ih =>
    intro q hq
    rcases List.mem_cons.mp hq with rfl | hq
    · exact ⟨.head _, n⟩
    · exact ⟨.tail _ (ih q hq).1, (ih q hq).2⟩
inductive Take : List (Addr × Obj) → List (Addr × Obj) → List (Addr × Obj) → Prop
  | nil {l} : Take [] l l
  | cons {p S l r r'} : Ext p l r → Take S r r' → Take (p :: S) l r'
theorem Take.mem {S l r : List (Addr × Obj)} (h : Take S l r) : ∀ p ∈ S, p ∈ l := by
  induction h with
  | nil => exact fun _ h => nomatch h
  | cons e _ ih =>
    intro p hp
    rcases List.mem_cons.mp hp with rfl | hp
    · exact e.mem
    · exact (e.sub _ (ih p hp)).1
theorem Take.sub {S l r : List (Addr × Obj)} (h : Take S l r) : ∀ q ∈ r, q ∈ l ∧ ∀ p ∈ S, p.1 ≠ q.1 := by
  induction h with
  | nil => exact fun q hq => ⟨hq, fun _ h => nomatch h⟩
  | cons e _ ih =>
    intro q hq
    obtain ⟨a, b⟩ := ih q hq
    refine ⟨(e.sub q a).1, fun p hp => ?_⟩
    rcases List.mem_cons.mp hp with rfl | hp
    · exact Ne.symm (e.sub q a).2
    · exact b p hp

section
variable {b₀ g h h' : Heap} {L : Addr} {m : Str → Option Value} {news S S' rest : List (Addr × Obj)}
theorem own_take (bg : ∀ b o, b₀.get? b = some o → g.get? b = some o) (F : Fr g L h m) (N : News g L h news) (t : Take S news rest) : Own b₀ h S := (own_of bg F N).sub t.mem
theorem after (F : Fr g L h m) (N : News g L h news) (t : Take S news rest) (k : Kp S h h') (O : Own b₀ h' S') (hS : ∀ p ∈ S', (∃ o, (p.1, o) ∈ S) ∨ h.get? p.1 = none) : Fr g L h' m ∧ News g L h' (S' ++ rest) := by
  have NS : News g L h S := fun p hp => N p (t.mem p hp)
  obtain ⟨oL, es, ep, hL, r⟩ := F.ns
  have hL' := k L oL hL fun p hp => (NS p hp).2.1
  refine ⟨⟨⟨oL, es, ep, hL', r⟩, fun b o e => k b o (F.keep b o e) fun p hp q => ?_, F.above⟩, fun p hp => ?_⟩
  · have := (NS p hp).2.2; rw [q, e] at this; cases this
  · rcases List.mem_append.mp hp with hp | hp
    · refine ⟨(O.mem p hp).1, ?_⟩
      rcases hS p hp with ⟨o, ho⟩ | hn
      · exact (NS _ ho).2
      · refine ⟨fun q => ?_, ?_⟩
        · rw [q, hL] at hn; cases hn
        · cases z : g.get? p.1 with
          | none => rfl
          | some o => rw [F.keep _ _ z] at hn; cases hn
    · obtain ⟨a, b⟩ := t.sub p hp
      exact ⟨k _ _ (N p a).1 b, (N p a).2⟩
theorem Kp.trans {S₁ S₂ : List (Addr × Obj)} {h h₁ h₂ : Heap} (k₁ : Kp S₁ h h₁) (k₂ : Kp S₂ h₁ h₂) (hs : ∀ p ∈ S₂, (∃ o, (p.1, o) ∈ S₁) ∨ h.get? p.1 = none) : Kp S₁ h h₂ := fun b o e n => by
  refine k₂ b o (k₁ b o e n) fun p hp q => ?_
  rcases hs p hp with ⟨o', ho⟩ | hn
  · exact n _ ho q
  · rw [q, e] at hn; cases hn
theorem fresh_of {s : Shared} {L : Addr} {a : Addr} {o : Obj} (hid : ∀ b o, s.heap.get? b = some o → (∀ p ∈ S, p.1 ≠ b) → g.get? b = some o) (N : News g L h news) (hm : (a, o) ∈ news) (hn : ∀ p ∈ S, p.1 ≠ a) : s.heap.get? a = none := by
  cases z : s.heap.get? a with
  | none => rfl
  | some o' => have := (N _ hm).2.2; rw [hid _ _ z hn] at this; cases this
noncomputable def AllNe (a : Nat) : List (Addr × Obj) → Prop
  | [] => True
  | p :: r => @Ne Nat p.1 a ∧ AllNe a r
theorem allNe_of {a : Addr} (N : News g L h news) (hn : h.get? a = none) : AllNe a news := by
  have H : ∀ l : List (Addr × Obj), (∀ p ∈ l, p ∈ news) → AllNe a l := by
    intro l
    induction l with
    | nil => intro _; trivial
    | cons p r ih => exact fun hs => ⟨fun q => (by have := (N p (hs p (.head _))).1; rw [q, hn] at this; cases this), ih fun x hx => hs x (.tail _ hx)⟩
  exact H news fun _ h => h
theorem old_or {S : List (Addr × Obj)} {a : Addr} {o : Obj} (h : (a, o) ∈ S) : (∃ o', (a, o') ∈ S) ∨ h'.get? a = none := .inl ⟨o, h⟩
end
end Mine
end
section
set_option maxHeartbeats 1500000
open PySem PySem.W PyProof.Rows PySem.Calls
namespace Mine
theorem lt_get {d x : Nat} {o : Obj} {l : List (Addr × Obj)} (h : ∀ p ∈ l, p.1 < d) (m : (x, o) ∈ l) : x < d := h _ m
theorem ne_get {d x : Nat} {o : Obj} {l : List (Addr × Obj)} (h : AllNe d l) (m : (x, o) ∈ l) : x ≠ d := by
  induction l with
  | nil => exact nomatch m
  | cons p r ih => 
    rcases List.mem_cons.mp m with e | m
    · subst e
      exact h.1
    · exact ih h.2 m
theorem bl_get {d x : Nat} {l : List Nat} (h : ∀ p ∈ l, p < d) (m : x ∈ l) : x < d := h _ m
theorem bl0 : ∀ p ∈ [161, 168], p < 200 := by decide
theorem bl_snoc {d e : Nat} {l : List Nat} (h : ∀ p ∈ l, p < d) (g : d < e) : ∀ p ∈ l ++ [d], p < e := fun p m => (List.mem_append.mp m).elim (fun m => Nat.lt_trans (h p m) g) (fun m => Nat.lt_of_le_of_lt (Nat.le_of_eq (List.mem_singleton.mp m)) g)
theorem addr5 {dv v ln d q : Nat} (h0 : 200 < dv) (h1 : dv < v) (h2 : v < ln) (h3 : ln < d) (h4 : d < q) :
    (∀ p ∈ [161, 168], p < dv) ∧ (∀ p ∈ [161, 168, dv], p < v) ∧ (∀ p ∈ [161, 168, dv, v], p < ln) ∧ (∀ p ∈ [161, 168, dv, v, ln], p < d) ∧ (∀ p ∈ [161, 168, dv, v, ln, d], p < q) := by
  have b1 : ∀ p ∈ [161, 168], p < dv := fun p m => Nat.lt_trans (bl0 p m) h0
  have b2 := bl_snoc b1 h1
  have b3 := bl_snoc b2 h2
  have b4 := bl_snoc b3 h3
  exact ⟨b1, b2, b3, b4, bl_snoc b4 h4⟩
end Mine
end
section
open PySem PySem.W PyProof.Rows PySem.Calls
set_option maxHeartbeats 8000000
namespace Mine
noncomputable abbrev initEnt (P : Params) (kt : Tok) (i : Int) (t : Tok) : DictEntry := ⟨PyData.keyHash P (Str.ofString "_initial_size"), .str (Str.ofString "_initial_size") kt, .int i t⟩
noncomputable abbrev accS (P : Params) (q d : Nat) (items : Array Value) (n kt : Nat) (i : Int) (it e : Nat) : List (Addr × Obj) := [(q, accObj d items n), (d, dictOf [initEnt P kt i it] e)]
noncomputable abbrev tupObj (f p : Str) (t t' : Tok) : Obj := { cls := .type "tuple", data := .seq #[.str f t, .str p t'] }
noncomputable def looseT : List Str := looseW view14 [Str.ofString "_Accumulator"] ++ (recsOf view14).map (·.name) ++ (litsOf view14).map (·.1) ++ (clssOf view14 (looseW view14 [Str.ofString "_Accumulator"])).map (·.name)
structure GW (w : World) (mean : ExcName → Option Value) (mg mb : Str → Option Value) (b₀ : Heap) : Prop where
  X : (hd.heap_1 w.params).In b₀
  T : Top topProg looseT mean mg mb b₀
end Mine
end
section
open PySem PySem.W PyProof.Rows PySem.Calls
set_option maxHeartbeats 8000000
namespace Mine
section
variable {prog : Program} {w : World} {A : Around} {E : Value → Shared → Prop} {s : Shared} {K : Frag} {x C L sl : Addr} {h₀ : Heap} {m : Str → Option Value} {ox : Obj} {od : Option Obj} {news : List (Addr × Obj)}

theorem special_bi {name : Str} {id : String} {args : List Value} {Q : Option Value → Shared → Prop} (X : K.In s.heap) (I : InstAt s.heap x ox C od) (hf : findIn K (.ref C) name = some (some (.builtin id))) (hb : ∀ self, bindSpecial (.builtin id) self = pure (.builtin id, [self]))
    (h : wpAny (model prog w) A (call (.builtin id) (.ref x :: args)) (fun v => Q (some v)) E s) : wpAny (model prog w) A (callSpecial? (.ref x) name args) Q E s := by
  refine wpAny_bind (wpAny_bind (I.type.here ((looks_findIn X hf).here (wpAny_holding ?_))))
  rw [hb]
  refine wpAny_bind (wpAny_pure ?_)
  exact wpAny_bind (wpAny_mono h (fun _ _ z => wpAny_pure z) fun _ _ z => z)

theorem seqKey_acc {name : Str} {k : Value} {Q : Value → Shared → Prop} (X : K.In s.heap) (I : InstAt s.heap x ox C od) (hq : noSeq K C = true) (h : Q k s) : wpAny (model prog w) A (sequenceKey (.ref x) k name) Q E s := by
  unfold sequenceKey
  refine wpAny_bind (I.type.here ?_)
  refine wpAny_bind ((anyM_none X hq).here ?_)
  rw [if_pos (show (!false) = true from rfl)]
  exact wpAny_pure h

theorem slice_head {α : Type} {vl vu vs : Value} {lo hi st : Option Int} {k : Value × Value × Value → Sem α} {Q : α → Shared → Prop} (hs : s.heap.IsSliceOf sl vl vu vs) (pl : IsPart vl lo) (pu : IsPart vu hi) (ps : IsPart vs st) (h0 : st ≠ some 0)
    (h : wpAny (model prog w) A (k (rawPart lo, rawPart hi, rawPart st)) Q E s) : wpAny (model prog w) A (Builtin.List.listSliceParts (.ref sl) >>= k) Q E s := by
  obtain ⟨os, hos, hcs, hds⟩ := id hs
  rw [listSliceParts_eq]
  have hstep : ¬ ((rawPart st == rawInt 0) = true) := by
    cases st with
    | none => exact Bool.false_ne_true
    | some c =>
      intro hh
      have : c = 0 := by simpa [rawPart, rawInt] using hh
      exact h0 (by rw [this])
  refine wpAny_bind (wpAny_bind (wpAny_field hos hds (x := vs) rfl (wpAny_bind (wpAny_listPart ps ?_))))
  rw [if_neg hstep]
  refine wpAny_bind (wpAny_field hos hds (x := vl) rfl (wpAny_bind (wpAny_listPart pl ?_)))
  exact wpAny_bind (wpAny_field hos hds (x := vu) rfl (wpAny_bind (wpAny_listPart pu (wpAny_pure h))))

theorem getslice_acc {its : Array Value} {n : Nat} {dx : Addr} {slt : Array (Option Value)} {vl vu vs : Value} {lo hi st : Option Int} {Q : Value → Shared → Prop} (X : K.In s.heap) (I : InstAt s.heap x ⟨.ref C, some dx, .seq its n, slt⟩ C od) (hq : noSeq K C = true)
    (hf : findIn K (.ref C) "__getitem__" = some (some (.builtin "list.__getitem__"))) (hsub : subIn K (.ref C) (.type "list") = some true)
    (hs : s.heap.IsSliceOf sl vl vu vs) (pl : IsPart vl lo) (pu : IsPart vu hi) (ps : IsPart vs st) (h0 : st ≠ some 0)
    (h : Q (.ref s.heap.objs.size) { s with heap := s.heap.push { cls := .type "list", data := .seq (slicePick its lo hi st) } })
    (hsz : its.size ≤ sizeLine) : wpAny (model prog w) A (getItem (.ref x) (.ref sl)) Q E s := by
  obtain ⟨os, hos, hcs, hds⟩ := id hs
  have hTs : s.TypeIs (.ref sl) "slice" := ⟨os, hos, hcs⟩
  unfold getItem
  refine wpAny_holding (wpAny_bind (seqKey_acc X I hq ?_))
  refine wpAny_bind (special_bi X I hf slot_list_getitem.bind (call_acc X I hsub (nm := "__getitem__") (by decide +kernel) (by first | exact .inl (by decide +kernel) | exact .inr (by decide +kernel)) (by decide +kernel) entry_list_getitem (args_list_getitem _ _) ?_))
  show wpAny _ _ (Builtin.List.listSubscript? (.ref sl) >>= _) _ _ s
  refine wpAny_bind ?_
  unfold Builtin.List.listSubscript?
  refine wpAny_bind (wpAny_specialOf hTs slice_no_index ?_)
  simp only [Option.isNone_none, if_true]
  refine wpAny_pure ?_
  show wpAny _ _ (typeOf (.ref sl) >>= _) _ _ s
  refine wpAny_bind (wpAny_typeOf hTs ?_)
  rw [if_neg (by decide)]
  refine slice_head hs pl pu ps h0 ?_
  refine wpAny_bind (wpAny_listItems I.at_ rfl ?_)
  refine wpAny_bind (wpAny_of_eq (sliceIndices_raw lo hi st its.size h0) ?_)
  exact wpAny_bind (wpAny_newObj_type (wpAny_pure ⟨_, rfl, wpAny_pure h⟩) (Nat.le_trans (slicePick_size_le its lo hi st) hsz))

theorem setslice_acc {its new : Array Value} {n n2 : Nat} {dx l : Addr} {slt : Array (Option Value)} {vl vu : Value} {lo hi : Option Int} {Q : Unit → Shared → Prop} (X : K.In s.heap) (I : InstAt s.heap x ⟨.ref C, some dx, .seq its n, slt⟩ C od) (hq : noSeq K C = true)
    (hf : findIn K (.ref C) "__setitem__" = some (some (.builtin "list.__setitem__"))) (hsub : subIn K (.ref C) (.type "list") = some true)
    (hs : s.heap.IsSliceOf sl vl vu .none) (pl : IsPart vl lo) (pu : IsPart vu hi) (hl : s.heap.get? l = some (listOf new n2)) (hne : x ≠ l)
    (hsz : its.size + new.size ≤ sizeLine)
    (h : Q () { s with heap := s.heap.update x (Obj.mapSeq fun xs => xs.extract 0 (sliceBounds lo hi none its.size).1.toNat ++ new ++ xs.extract (max (sliceBounds lo hi none its.size).1 (sliceBounds lo hi none its.size).2.1).toNat xs.size) })
    (hz : (its.extract 0 (sliceBounds lo hi none its.size).1.toNat ++ new ++ its.extract (max (sliceBounds lo hi none its.size).1 (sliceBounds lo hi none its.size).2.1).toNat its.size).size ≤ sizeLine) : wpAny (model prog w) A (setItem (.ref x) (.ref sl) (.ref l)) Q E s := by
  obtain ⟨os, hos, hcs, hds⟩ := id hs
  have hTs : s.TypeIs (.ref sl) "slice" := ⟨os, hos, hcs⟩
  have hTl : s.TypeIs (.ref l) "list" := ⟨_, hl, rfl⟩
  unfold setItem
  refine wpAny_holding (wpAny_bind (seqKey_acc X I hq ?_))
  refine wpAny_bind (special_bi X I hf PySem.F.slot_list_setitem.bind (call_acc X I hsub (nm := "__setitem__") (by decide +kernel) (by first | exact .inl (by decide +kernel) | exact .inr (by decide +kernel)) (by decide +kernel) (entryFor_of_tree (b := Builtin.«list.__setitem__») (by kernel_rfl)) (by unfold argsOk; kernel_rfl) ?_))
  unfold Builtin.«list.__setitem__»
  refine wpAny_bind (wpAny_pure ?_)
  dsimp only
  refine wpAny_bind ?_
  unfold Builtin.List.listSubscript?
  refine wpAny_bind (wpAny_specialOf hTs slice_no_index ?_)
  simp only [Option.isNone_none, if_true]
  refine wpAny_pure ?_
  dsimp only
  refine wpAny_bind (wpAny_typeOf hTs ?_)
  rw [if_neg (by decide)]
  refine slice_head hs pl pu .none (by intro e; cases e) ?_
  dsimp only
  have hsr : Builtin.List.listSameRef (.ref x) (.ref l) = false := by simp [Builtin.List.listSameRef, hne]
  rw [hsr]
  refine wpAny_bind ?_
  unfold Builtin.List.listAllItems
  refine wpAny_bind (wpAny_typeOf hTl ?_)
  rw [if_pos (by decide)]
  refine wpAny_listItems hl rfl ?_
  refine wpAny_bind (wpAny_listItems I.at_ rfl ?_)
  refine wpAny_bind (wpAny_of_eq (sliceIndices_raw lo hi none its.size (by intro e; cases e)) ?_)
  rw [if_pos (show ((sliceBounds lo hi none its.size).2.2 == 1) = true from rfl)]
  refine wpAny_bind (wpAny_rule ?_)
  rw [if_neg (by unfold Builtin.List.listTooLong; simp only [decide_eq_true_eq]; omega)]
  refine wpAny_bind (wpAny_updateSeq I.at_ rfl (wpAny_bind (wpAny_letGo (wpAny_pure ⟨_, rfl, wpAny_pure h⟩))) (by omega) (by exact Nat.le_succ_of_le hz))

noncomputable abbrev sliceObj (l u : Value) : Obj := { cls := .type "slice", data := .fields #[l, u, .none] }

theorem setslice_K {t : Shared} {its new its' : Array Value} {n n2 : Nat} {dx l : Addr} {od : Obj} {vl vu : Value} {lo hi : Option Int} {news' : List (Addr × Obj)} {Q : Unit → Shared → Prop} (F : Fr h₀ L t.heap m) (X₀ : K.In h₀) (N : News h₀ L t.heap news)
    (U : Upd x ⟨.ref C, some dx, .seq its n, #[]⟩ ⟨.ref C, some dx, .seq its' (if its'.size == its.size then n else n + 1), #[]⟩ news news') (hd : (dx, od) ∈ news) (hl : t.heap.get? l = some (listOf new n2)) (hne : x ≠ l)
    (pl : IsPart vl lo) (pu : IsPart vu hi) (hq : noSeq K C = true) (hf : findIn K (.ref C) "__setitem__" = some (some (.builtin "list.__setitem__"))) (hsub : subIn K (.ref C) (.type "list") = some true)
    (he : its.extract 0 (sliceBounds lo hi none its.size).1.toNat ++ new ++ its.extract (max (sliceBounds lo hi none its.size).1 (sliceBounds lo hi none its.size).2.1).toNat its.size = its')
    (hsz : its.size + new.size ≤ sizeLine) (hz : its'.size ≤ sizeLine)
    (h : ∀ h', Fr h₀ L h' m → News h₀ L h' news' → Q () { t with heap := h' }) :
    wpAny (model prog w) A (setItem (.ref x) (.ref t.heap.objs.size) (.ref l)) Q E { t with heap := t.heap.push (sliceObj vl vu) } := by
  obtain ⟨pre, post, rfl, rfl, a, b⟩ := U.split
  have N1 : News h₀ L (t.heap.push (sliceObj vl vu)) (pre ++ (x, ⟨.ref C, some dx, .seq its n, #[]⟩) :: post) := fun p hp => (N.push F (sliceObj vl vu)) p (.tail _ hp)
  have F1 := F.push (sliceObj vl vu)
  have z := N1 (x, _) (List.mem_append.mpr (.inr (.head _)))
  refine setslice_acc (s := { t with heap := t.heap.push (sliceObj vl vu) }) (X₀.keeps F1.keep) (inst_acc N1 (List.mem_append.mpr (.inr (.head _))) hd) hq hf hsub (Heap.IsSliceOf.new ..) pl pu (Heap.get?_push_of_some _ hl) hne hsz ?_ (by rw [he]; exact hz)
  dsimp only
  generalize hfn : (fun xs : Array Value => xs.extract 0 (sliceBounds lo hi none its.size).1.toNat ++ new ++ xs.extract (max (sliceBounds lo hi none its.size).1 (sliceBounds lo hi none its.size).2.1).toNat xs.size) = fn
  have hfi : fn its = its' := by rw [← hfn]; exact he
  have hs : Heap.SameBut x (t.heap.push (sliceObj vl vu)) ((t.heap.push (sliceObj vl vu)).update x (Obj.mapSeq fn)) := Heap.SameBut.update ..
  refine h _ (F1.change hs z.2.1 z.2.2) (news_set N1 a b hs ?_)
  have := Heap.get?_update_self (Obj.mapSeq fn) z.1 rfl
  rw [this]
  simp [Obj.mapSeq, hfi]

theorem getslice_K {t : Shared} {its : Array Value} {n : Nat} {dx : Addr} {od : Obj} {vl vu : Value} {lo hi : Option Int} {Q : Value → Shared → Prop} (F : Fr h₀ L t.heap m) (X₀ : K.In h₀) (N : News h₀ L t.heap news)
    (hx : (x, (⟨.ref C, some dx, .seq its n, #[]⟩ : Obj)) ∈ news) (hd : (dx, od) ∈ news)
    (pl : IsPart vl lo) (pu : IsPart vu hi) (hq : noSeq K C = true) (hf : findIn K (.ref C) "__getitem__" = some (some (.builtin "list.__getitem__"))) (hsub : subIn K (.ref C) (.type "list") = some true)
    (hsz : its.size ≤ sizeLine)
    (h : ∀ D h', Fr h₀ L h' m → News h₀ L h' ((D, listOf (slicePick its lo hi none) 0) :: news) → (∀ p ∈ news, p.1 < D) → Q (.ref D) { t with heap := h' }) :
    wpAny (model prog w) A (getItem (.ref x) (.ref t.heap.objs.size)) Q E { t with heap := t.heap.push (sliceObj vl vu) } := by
  have N1 : News h₀ L (t.heap.push (sliceObj vl vu)) news := fun p hp => (N.push F (sliceObj vl vu)) p (.tail _ hp)
  have F1 := F.push (sliceObj vl vu)
  refine getslice_acc (s := { t with heap := t.heap.push (sliceObj vl vu) }) (X₀.keeps F1.keep) (inst_acc N1 hx hd) hq hf hsub (Heap.IsSliceOf.new ..) pl pu .none (by intro e; cases e) ?_ hsz
  exact h _ _ (F1.push _) (N1.push F1 _) fun p hp => Heap.lt_size (N1 p hp).1
end
end Mine
end
section
open PySem PySem.W PyProof.Rows PySem.Calls
set_option maxHeartbeats 8000000
namespace Mine
theorem slice_clear (its new : Array Value) : its.extract 0 (sliceBounds none none none its.size).1.toNat ++ new ++ its.extract (max (sliceBounds none none none its.size).1 (sliceBounds none none none its.size).2.1).toNat its.size = new := by
  have e : sliceBounds none none none its.size = (((0 : Nat) : Int), (its.size : Int), 1) := by
    simp [sliceBounds]
  rw [e]
  apply Array.ext'
  simp
theorem slice_cut (its : Array Value) (v : Value) : (its.push v).extract 0 (sliceBounds (some (its.size : Int)) none none (its.push v).size).1.toNat ++ #[] ++ (its.push v).extract (max (sliceBounds (some (its.size : Int)) none none (its.push v).size).1 (sliceBounds (some (its.size : Int)) none none (its.push v).size).2.1).toNat (its.push v).size = its := by
  have e : sliceBounds (some (its.size : Int)) none none (its.push v).size = ((its.size : Int), ((its.push v).size : Int), 1) := by
    simp only [sliceBounds, Option.getD_none]
    have h1 : ¬ ((its.size : Int) < 0) := by omega
    simp only [h1, if_false, show (1 : Int) > 0 by decide, if_true, Array.size_push]
    congr 1
    omega
  rw [e]
  apply Array.ext'
  have hm : max (its.size : Int) ((its.push v).size : Int) = ((its.push v).size : Int) := by simp only [Array.size_push]; omega
  simp only [hm, Int.toNat_natCast]
  simp
theorem pick_cut (its : Array Value) (v : Value) : slicePick (its.push v) (some (its.size : Int)) none none = #[v] := by
  rw [slicePick_from _ _ (by simp)]
  simp
section
variable {prog : Program} {w : World} {A : Around} {E : Value → Shared → Prop} {s : Shared} {K : Frag} {x C L sl : Addr} {h₀ : Heap} {m : Str → Option Value} {ox : Obj} {news : List (Addr × Obj)}
theorem tail_inst {value slice : PySem.Expr} {i : Value} {ops : List Value} {od : Option Obj} {id : String} {Q : Value → Shared → Prop} (X : K.In s.heap) (I : InstAt s.heap x ox C od)
    (hf : findIn K (.ref C) "__getitem__" = some (some (.builtin id))) (hg : wpAny (model prog w) A (getItem (.ref x) i) Q E s)
    (hs : subscripted slice false (.ref x) i = operate ops (getItem (.ref x) i)) : wpAny (model prog w) A (subscriptTail value slice (.ref x) i) Q E s := by
  unfold subscriptTail
  refine wpAny_bind ?_
  rw [getitemInPython_of_ne (fun e => by cases e)]
  unfold specialOf
  refine wpAny_bind (wpAny_bind (I.type.here ((looks_findIn X hf).here ?_)))
  have fin : wpAny (model prog w) A (subscripted slice false (.ref x) i) (fun r s₃ => wpAny (model prog w) A (letTemporaryGo value (.ref x) r >>= fun _ => pure r) Q E s₃) E s := by
    rw [hs]
    exact wpAny_operating (wpAny_mono hg (fun r s₃ h₃ => wpAny_bind (wpAny_letTemporaryGo (wpAny_pure h₃))) fun _ _ x => x)
  first
    | exact wpAny_pure (wpAny_bind fin)
    | exact wpAny_bind (wpAny_pure (wpAny_bind fin))
    | exact wpAny_bind fin
theorem subslice_K {t : Shared} {value slice : PySem.Expr} {ops : List Value} {its : Array Value} {n : Nat} {dx : Addr} {od : Obj} {vl vu : Value} {lo hi : Option Int} {Q : Value → Shared → Prop} (F : Fr h₀ L t.heap m) (X₀ : K.In h₀) (N : News h₀ L t.heap news)
    (hx : (x, (⟨.ref C, some dx, .seq its n, #[]⟩ : Obj)) ∈ news) (hd : (dx, od) ∈ news)
    (pl : IsPart vl lo) (pu : IsPart vu hi) (hq : noSeq K C = true) (hf : findIn K (.ref C) "__getitem__" = some (some (.builtin "list.__getitem__"))) (hsub : subIn K (.ref C) (.type "list") = some true)
    (hsz : its.size ≤ sizeLine)
    (h : ∀ D h', Fr h₀ L h' m → News h₀ L h' ((D, listOf (slicePick its lo hi none) 0) :: news) → (∀ p ∈ news, p.1 < D) → Q (.ref D) { t with heap := h' })
    (hs : subscripted slice false (.ref x) (.ref t.heap.objs.size) = operate ops (getItem (.ref x) (.ref t.heap.objs.size))) :
    wpAny (model prog w) A (subscriptTail value slice (.ref x) (.ref t.heap.objs.size)) Q E { t with heap := t.heap.push (sliceObj vl vu) } := by
  have N1 : News h₀ L (t.heap.push (sliceObj vl vu)) news := fun p hp => (N.push F (sliceObj vl vu)) p (.tail _ hp)
  have F1 := F.push (sliceObj vl vu)
  exact tail_inst (X₀.keeps F1.keep) (inst_acc N1 hx hd) hf (getslice_K F X₀ N hx hd pl pu hq hf hsub hsz h) hs
end
end Mine
end
section
open PySem PySem.W PyProof.Rows PySem.Calls PySem.Spec
set_option maxHeartbeats 8000000
namespace Mine
noncomputable def SeqAt (h : Heap) (x : Addr) (its : Array Value) : Prop := ∃ o n, h.get? x = some o ∧ o.data = .seq its n
theorem SeqAt.at {h h' : Heap} {x : Addr} {its : Array Value} (e : SeqAt h x its) (k : ∀ o, h.get? x = some o → h'.get? x = some o) : SeqAt h' x its :=
  let ⟨o, n, a, b⟩ := e; ⟨o, n, k _ a, b⟩
noncomputable def TF (h : Heap) (its : Array Value) (ps : List (Str × Str)) : Prop :=
  its.size = ps.length ∧ ∀ j (hj : j < ps.length), ∃ tp t t', its[j]? = some (.ref tp) ∧ h.get? tp = some (tupObj ps[j].1 ps[j].2 t t')
section
variable {prog : Program} {w : World} {A : Around} {E : Value → Shared → Prop} {s : Shared}
theorem next_seq {it l : Addr} {i : Nat} {items : Array Value} {x : Value} {Q : Option Value → Shared → Prop} (hit : s.heap.IsListIter it l i) (hl : SeqAt s.heap l items) (hx : items[i]? = some x)
    (hQ : ∀ h', h'.IsListIter it l (i + 1) → Heap.SameBut it s.heap h' → Q (some x) { s with heap := h' }) : wpAny (model prog w) A (pyNext (.ref it)) Q E s := by
  obtain ⟨o, ho, hc, hd⟩ := id hit
  obtain ⟨ol, nl, hol, hdl⟩ := hl
  unfold pyNext
  refine wpAny_bind (wpAny_attempt (wpAny_callSpecial?_slot (name := Str.ofString "__next__") hit.typeIs slot_listiter_next (wpAny_call_entry slot_listiter_next hit.typeIs entry_listiter_next ?_ (args_listiter_next _))))
  show wpAny _ _ (field (.ref it) 0 >>= _) _ _ s
  refine wpAny_bind (wpAny_field ho hd (x := .ref l) rfl ?_)
  show wpAny _ _ (if (Value.ref l == Value.none) = true then _ else _) _ _ s
  rw [if_neg (show ¬ ((Value.ref l == Value.none) = true) from Bool.false_ne_true)]
  show wpAny _ _ (field (.ref it) 1 >>= _) _ _ s
  refine wpAny_bind (wpAny_field ho hd (x := .int i 0) rfl ?_)
  show wpAny _ _ (seqItems? (.ref l) >>= _) _ _ s
  refine wpAny_bind (wpAny_seqItems hol hdl ?_)
  simp only [Int.toNat_natCast, hx]
  refine wpAny_bind (wpAny_setField ho hd (by simp) (wpAny_pure ⟨x, rfl, wpAny_pure (hQ _ ?_ (Heap.SameBut.update ..))⟩))
  exact ⟨_, Heap.get?_update_self _ ho (Obj.isFreed_of_fields (Obj.data_mapFields hd _)), (Obj.cls_mapFields ..).trans hc, by rw [Obj.data_mapFields hd]; simp [rawInt]⟩
theorem end_seq {it l : Addr} {i : Nat} {items : Array Value} {Q : Option Value → Shared → Prop} (hh : A.handled = none) (hit : s.heap.IsListIter it l i) (hl : SeqAt s.heap l items) (hx : items[i]? = none)
    (hQ : ∀ h', Heap.ExtBut it s.heap h' → Q none { s with heap := h' }) : wpAny (model prog w) A (pyNext (.ref it)) Q E s := by
  obtain ⟨o, ho, hc, hd⟩ := id hit
  obtain ⟨ol, nl, hol, hdl⟩ := hl
  unfold pyNext
  refine wpAny_bind (wpAny_attempt (wpAny_callSpecial?_slot (name := Str.ofString "__next__") hit.typeIs slot_listiter_next (wpAny_call_entry slot_listiter_next hit.typeIs entry_listiter_next ?_ (args_listiter_next _))))
  show wpAny _ _ (field (.ref it) 0 >>= _) _ _ s
  refine wpAny_bind (wpAny_field ho hd (x := .ref l) rfl ?_)
  show wpAny _ _ (if (Value.ref l == Value.none) = true then _ else _) _ _ s
  rw [if_neg (show ¬ ((Value.ref l == Value.none) = true) from Bool.false_ne_true)]
  show wpAny _ _ (field (.ref it) 1 >>= _) _ _ s
  refine wpAny_bind (wpAny_field ho hd (x := .int i 0) rfl ?_)
  show wpAny _ _ (seqItems? (.ref l) >>= _) _ _ s
  refine wpAny_bind (wpAny_seqItems hol hdl ?_)
  simp only [Int.toNat_natCast, hx]
  refine wpAny_bind (wpAny_rule (wpAny_bind (wpAny_setField ho hd (by simp) ?_)))
  show wpAny _ _ (newExc (.type "StopIteration") [] >>= _) _ _ _
  refine wpAny_bind ?_
  simp only [newExc, newTuple]
  refine wpAny_bind (wpAny_newObj_type ?_ (by size_fits))
  refine wpAny_bind (m := firstArgMember _ _) (wpAny_of_eq (a := Value.none) (by first | rfl | (simp only [firstArgMember]; rfl)) ?_)
  refine wpAny_newObj_type ?_ (by size_fits)
  simp only [raiseNew]
  refine wpAny_bind (wpAny_handled ?_)
  rw [show A.in1.handled = none from hh]
  refine wpAny_bind (wpAny_pure (wpAny_throw ?_))
  refine wpAny_bind (wpAny_isInstance (T := "StopIteration") (b := true) ⟨_, Heap.get?_push_size _ rfl, rfl⟩ isSubtype_stop ?_)
  exact wpAny_pure (hQ _ (((Heap.SameBut.update ..).extBut.push _).push _))
end

theorem tf_tup {h : Heap} {its : Array Value} {ps : List (Str × Str)} (T : TF h its ps) {j : Nat} (hj : j < ps.length) : ∃ tp t t', its[j]? = some (.ref tp) ∧ h.get? tp = some (tupObj ps[j].1 ps[j].2 t t') := T.2 j hj

theorem walks_acc {prog : Program} {w : World} {A : Around} (hh : A.handled = none) (I x : Addr) (hne : x ≠ I) (its : Array Value) (Ts : Nat → Addr) (vals : Nat → Array Value)
    (hit : ∀ j, j < its.size → its[j]? = some (.ref (Ts j))) (hTI : ∀ j, j < its.size → Ts j ≠ I) :
    WalksU prog w A I (I :: x :: (List.range its.size).map Ts) [I] its.size (fun j v => j < its.size ∧ v = vals j)
      (fun j h => h.IsListIter I x j ∧ SeqAt h x its ∧ ∀ k, k < its.size → h.IsTuple (Ts k) (vals k))
      (fun j T h => (j < its.size ∧ T = Ts j) ∧ h.IsListIter I x (j + 1) ∧ SeqAt h x its ∧ ∀ k, k < its.size → h.IsTuple (Ts k) (vals k)) where
  sub := fun b hb => by simp at hb; simp [hb]
  frame := fun _ _ _ st hk => ⟨st.1.at fun o e => hk I (by simp) o e, st.2.1.at fun o e => hk x (by simp) o e,
    fun k hk' => (st.2.2 k hk').at fun o e => hk (Ts k) (List.mem_cons_of_mem _ (List.mem_cons_of_mem _ (List.mem_map.mpr ⟨k, List.mem_range.mpr hk', rfl⟩))) o e⟩
  item := fun i s Q E hi st hQ => by
    refine next_seq st.1 st.2.1 (x := .ref (Ts i)) (hit i hi) fun h' hit' hs' => ?_
    have tup : ∀ k, k < its.size → h'.IsTuple (Ts k) (vals k) := fun k hk' => (st.2.2 k hk').extBut hs'.extBut (hTI k hk')
    exact hQ (Ts i) (vals i) h' s.toks ⟨hi, rfl⟩ (tup i hi) ⟨⟨hi, rfl⟩, hit', st.2.1.at fun o e => hs'.extBut x o hne e, tup⟩ fun b o hb e => hs'.extBut b o (fun h => hb (by simp [h])) e
  go := fun _ _ _ _ _ s Q _ hm hQ => wpAny_letOwnedTupleGo_listiter hm.2.1 (hQ s.heap hm.2 fun _ _ _ e => e)
  apart := fun j T _ hm hmem => by
    rcases List.mem_cons.mp hmem with e | e
    · exact hTI j hm.1.1 (hm.1.2 ▸ e)
    · cases e
  done := fun s Q E st hQ => end_seq hh st.1 st.2.1 (by simp) fun h' he' => hQ h' s.toks fun b o hb e => he' b o (fun h => hb (by simp [h])) e
  self := fun _ _ _ _ st hQ => wpAny_pyIter_listiter st.1 hQ

section
variable {prog : Program} {w : World} {A : Around} {E : Value → Shared → Prop} {s : Shared} {K : Frag} {x C : Addr} {ox : Obj} {od : Option Obj}
theorem iter_acc {Q : Value → Shared → Prop} (X : K.In s.heap) (I : InstAt s.heap x ox C od) (hsub : subIn K (.ref C) (.type "list") = some true)
    (hf : findIn K (.ref C) "__iter__" = some (some (.builtin "list.__iter__")))
    (hQ : Q (.ref s.heap.objs.size) { s with heap := s.heap.push { cls := .type "list_iterator", data := .fields #[.ref x, .int 0 0] } }) :
    wpAny (model prog w) A (pyIter (.ref x)) Q E s := by
  have hc : ∀ A : Around, wpAny (model prog w) A (call (.builtin "list.__iter__") [.ref x]) (fun it s' => ∃ T' r, s'.TypeIs it T' ∧ typeLookup (.type T') "__next__" = pure (some r) ∧ Q it s') E s := fun A => by
    refine call_acc X I hsub (nm := "__iter__") (by decide +kernel) (by first | exact .inl (by decide +kernel) | exact .inr (by decide +kernel)) (by decide +kernel) entry_list_iter (args_list_iter _) ?_
    show wpAny _ _ (do ret (← newFields "list_iterator" [.ref x, rawInt 0])) _ _ s
    exact wpAny_bind (wpAny_newObj_type (wpAny_pure ⟨_, rfl, "list_iterator", _, ⟨_, Heap.get?_push_size _ rfl, rfl⟩, slot_listiter_next.lookup, hQ⟩))
  unfold pyIter
  refine wpAny_bind ?_
  unfold specialOf
  refine wpAny_bind (I.type.here ((looks_findIn X hf).here ?_))
  show wpAny _ _ (callSpecialIfBoundUnlessNone? (.ref x) "__iter__" _ >>= _) _ _ s
  refine wpAny_bind ?_
  simp only [callSpecialIfBoundUnlessNone?, bindSpecialIfBound?]
  unfold specialOf
  refine wpAny_holding (wpAny_bind (wpAny_bind (wpAny_bind (I.type.here ((looks_findIn X hf).here ?_)))))
  simp only [slot_list_iter.bind]
  refine wpAny_bind (wpAny_askSetting (wpAny_ite ?_))
  have fin : wpAny (model prog w) A (call (.builtin "list.__iter__") [.ref x] >>= fun v => pure (some v)) (fun a s' => wpAny (model prog w) A (match a with
      | some it => (specialOf it "__next__" >>= fun r => match r with
        | none => (rule "iter.non-iterator" >>= fun _ => typeNameOf it >>= fun n => raiseError "TypeError" s!"iter() returned non-iterator of type '{n}'")
        | some _ => pure it)
      | none => (bindSpecialIfBound? (.ref x) "__getitem__" >>= fun r => match r with
        | none => (rule "iter.not-iterable" >>= fun _ => typeNameOf (.ref x) >>= fun n => raiseError "TypeError" s!"'{n}' object is not iterable")
        | some _ => (rule "iter.getitem-fallback" >>= fun _ => mkInt 0 >>= fun i => newFields "iterator" [.ref x, i]))) Q E s') E s :=
    wpAny_bind (wpAny_mono (hc A) (fun it s' z => wpAny_pure (by
      obtain ⟨T', r, hT', hl, hQ⟩ := z
      exact wpAny_bind (wpAny_specialOf hT' hl (wpAny_pure hQ)))) fun _ _ z => z)
  have e1 : ((Value.builtin "list.__iter__" == Value.none) = true) = False := by simp
  split
  · refine wpAny_bind (wpAny_pure (wpAny_pure ?_))
    dsimp only
    simp only [e1, if_false]
    exact fin
  · refine wpAny_tryCatch (wpAny_bind (wpAny_pure (wpAny_pure ?_)))
    dsimp only
    simp only [e1, if_false]
    exact fin
end
end Mine
end
section
open PySem PySem.W PyProof.Rows PySem.Calls PySem.Spec
set_option maxHeartbeats 8000000
namespace Mine
noncomputable def TabOk (pos : Pos) (tb : Array Value) : Prop := tb = #[] ∨ ∃ c, tb = #[rawInt pos.line, rawInt pos.col, .ref c]
section
variable {M : Model} {prog : Program} {w : World} {A : Around} {E : Value → Shared → Prop} {s : Shared}
theorem gencode_hit {env : Env} {c P : Addr} {tb : Array Value} {pos : Pos} {qn : Str} {scope : Scope} {cv : Value} {Q : Value → Shared → Prop} (hc : env.code = .ref c) (hok : s.heap.IsCode c P tb) (hf : codeAmong pos tb.toList = some cv) (hQ : Q cv s) :
    wpAny M A (genexprCode env pos qn scope) Q E s := by
  obtain ⟨o, vs, file, tf, flags, tg, inF, text, tt, op, ho, hd, h11, h2, h7, h9, h10, hop, hpd, htr, hne⟩ := id hok
  unfold genexprCode codeAt
  rw [hc, if_neg (show ¬ ((Value.ref c == Value.none) = true) from Bool.false_ne_true)]
  refine wpAny_bind (wpAny_fieldsOf ho hd ?_)
  rw [h11]
  refine wpAny_bind (wpAny_fieldsOf hop hpd ?_)
  rw [hf]
  exact wpAny_pure hQ
theorem gencode {env : Env} {c P : Addr} {tb : Array Value} {pos : Pos} {qn : Str} {scope : Scope} {Q : Value → Shared → Prop} (hc : env.code = .ref c) (C : CodeHd s.heap c P) (hP : s.heap.get? P = some (tabObj tb)) (ok : TabOk pos tb)
    (hQ : ∀ cv h' tk tb', TabOk pos tb' → h'.get? P = some (tabObj tb') → (∀ b o, b ≠ P → s.heap.get? b = some o → h'.get? b = some o) → s.heap.objs.size ≤ h'.objs.size → Q cv { s with heap := h', toks := tk }) :
    wpAny M A (genexprCode env pos qn scope) Q E s := by
  have e1 : (pos.line : Int) == (pos.line : Int) := by simp
  rcases ok with rfl | ⟨c', rfl⟩
  · refine wpAny_genexprCodeX hc (C.code hP True.intro) (C.tab hP) rfl fun c' h' tk k hlt hlt2 _ _ T _ => ?_
    exact hQ _ h' tk _ (.inr ⟨c', by simp⟩) T.2 (fun b o n e => k b o n e) (by omega)
  · refine gencode_hit (cv := .ref c') hc (C.code hP (by simp [TriplesOk, rawInt])) (by simp [codeAmong, rawInt]) ?_
    have : s = { s with heap := s.heap, toks := s.toks } := rfl
    rw [this]
    exact hQ _ _ _ _ (.inr ⟨c', rfl⟩) hP (fun _ _ _ e => e) (Nat.le_refl _)
end

noncomputable def GenR (prog : Program) (w : World) (A : Around) (Z : Nat) (a : Addr) (n : Nat) (Pf : Nat → Value → Prop) (s : Shared) : Prop :=
  ∃ fp wr G St, WalksS prog w A.in4 a fp wr G n Pf St ∧ (∀ h' tk, s.toks ≤ tk → (∀ b o, s.heap.get? b = some o → h'.get? b = some o) → St 0 { s with heap := h', toks := tk }) ∧ (∀ b ∈ fp, b < s.heap.objs.size) ∧ a ∈ fp ∧
    (∀ i s', St i s' → s'.TypeIs (.ref a) "generator") ∧ (∀ x y, AllBare x → G x y → AllBare y) ∧ ∀ b ∈ wr, Z ≤ b

theorem walksS_mono {prog : Program} {w : World} {A : Around} {I : Addr} {fp wr : List Addr} {G : Array GenState → Array GenState → Prop} {n : Nat} {P P' : Nat → Value → Prop} {St : Nat → Shared → Prop}
    (W : WalksS prog w A I fp wr G n P St) (f : ∀ i v, P i v → P' i v) : WalksS prog w A I fp wr G n P' St :=
  ⟨W.sub, W.grefl, W.gtrans, W.frame, fun i s Q E hi st hQ => W.item i s Q E hi st fun v s' hP => hQ v s' (f i v hP), W.done, W.self⟩
structure Low (g : Heap) (L : Addr) (news : List (Addr × Obj)) (Z : Nat) : Prop where
  base : ∀ b o, g.get? b = some o → b < Z
  loc : L < Z
  led : ∀ p ∈ news, p.1 < Z
section
variable {p : Program} {loose : List Str} {mean : ExcName → Option Value} {mg mb : Str → Option Value} {prog : Program} {w : World} {A : Around} {E : Value → Shared → Prop} {s : Shared} {K : Frag} {g : Heap} {L q d : Addr} {m : Str → Option Value} {news rest : List (Addr × Obj)}

theorem genexp_K {env : Env} {elt iter : PySem.Expr} {xa xb : Str} {pa pb pt : Pos} {kt : Nat} {scope : Scope} {pos : Pos} {Q : Value → Shared → Prop} {its : Array Value} {k : Nat} {od : Obj} {C c P : Addr} {tb : Array Value} {ps : List (Str × Str)} (val : Str × Str → Value → Prop)
    (F : Fr g L s.heap m) (N : News g L s.heap news) (X : K.In g) (T : Top p loose mean mg mb g) (gb : AllBare s.gens) (hge : env.globals = mainGlobals)
    (hx : (q, (⟨.ref C, some d, .seq its k, #[]⟩ : Obj)) ∈ news) (hd : (d, od) ∈ news) (Cd : CodeHd g c P) (hcode : env.code = .ref c) (tk : Take [(P, tabObj tb)] news rest) (ok : TabOk pos tb) (hT : TF s.heap its ps)
    (hsub : subIn K (.ref C) (.type "list") = some true) (hf : findIn K (.ref C) "__iter__" = some (some (.builtin "list.__iter__")))
    (hev : ∀ Q : Value → Shared → Prop, Q (.ref q) s → wpAny (model prog w) A (eval iter env) Q E s)
    (helt : ∀ (A' : Around) E' (Cl : Addr) (cv : Value) (f r : Str) (t t' : Tok) (u : Shared) (m₂ : Str → Option Value), A'.handled = none → A'.depth ≤ A.depth + 1 → A'.units ≤ A.units + 8 → (f, r) ∈ ps → Fr g Cl u.heap (fun y => if y = xa then some (.str f t) else if y = xb then some (.str r t') else m₂ y) →
      wpAny (model prog w) A' (eval elt (genEnv scope [] Cl cv builtinsNs env)) (fun y s₃ => val (f, r) y ∧ Keeps u s₃) E' u)
    (h : ∀ a h' (gs : BG) tk' tb', TabOk pos tb' → Fr g L h' m → News g L h' ((P, tabObj tb') :: rest) → Low g L ((P, tabObj tb') :: rest) s.heap.objs.size → GenR prog w A s.heap.objs.size a ps.length (fun j y => ∃ hj : j < ps.length, val ps[j] y) ⟨h', gs.1, s.drawn, tk', s.os⟩ → Q (.ref a) ⟨h', gs.1, s.drawn, tk', s.os⟩)
    (hh : A.handled = none) (hco : scope.isCoroutine = false) (hclos : closureFor scope env = pure []) (hcell : ∀ y ∈ scope.names, y.2 ≠ .cell) (h0 : scope.names.lookup (".0" : Str) = some NameKind.local)
    (hxa : scope.names.lookup xa = some .local) (hxb : scope.names.lookup xb = some .local) (hab : xa ≠ xb) (hkind : scope.kind = .function) (hroom : A.depth < recursionLimit) (hs : ∀ x, genFold iter env x = pure x) :
    wpAny (model prog w) A (eval (.GeneratorExp elt [⟨.Tuple [.Name xa pa, .Name xb pb] kt pt, iter, [], 0⟩] scope pos) env) Q E s := by
  refine wpAny_GeneratorExp_walksQTD hh hco hclos hcell h0 hxa hxb hab hkind hroom (hev _ ?_) hs
  refine iter_acc (X.keeps F.keep) (inst_acc N hx hd) hsub hf ?_
  have F1 := F.push { cls := .type "list_iterator", data := .fields #[.ref q, .int 0 0] }
  have N1 : News g L (s.heap.push { cls := .type "list_iterator", data := .fields #[.ref q, .int 0 0] }) news := fun p hp => (N.push F _) p (.tail _ hp)
  have hPn : (P, tabObj tb) ∈ news := tk.mem _ (.head _)
  refine ⟨(T.nolimit.keeps F1.keep), gencode hcode (Cd.keeps F1.keep) (N1 _ hPn).1 ok fun cv h₃ tk₃ tb' ok' hP₃ k₃ hz₃ => ?_⟩
  dsimp only at k₃ hz₃
  rw [Heap.size_push] at hz₃
  obtain ⟨bm, ob, B⟩ := bmod_of_top T
  have hgP : ∀ b o, g.get? b = some o → b ≠ P := fun b o e q => by have := (N _ hPn).2.2; rw [← q, e] at this; cases this
  have kg : ∀ b o, g.get? b = some o → h₃.get? b = some o := fun b o e => k₃ b o (hgP b o e) (F1.keep b o e)
  have B₃ : BMod h₃ env.globals mg bm ob := by rw [hge]; exact B.keeps kg
  refine wpAny_builtinsFor B₃.ns B₃.name B₃.ne B₃.obj B₃.cls B₃.dict B₃.data ?_
  have hLs : L < s.heap.objs.size := F.ns.lt
  have hgs : ∀ b o, g.get? b = some o → b < s.heap.objs.size := fun b o e => Heap.lt_size (F.keep b o e)
  have hPL : P ≠ L := (N _ hPn).2.1
  let Ts : Nat → Addr := fun j => if hj : j < ps.length then (hT.2 j hj).choose else 0
  have hTs : ∀ j (hj : j < ps.length), ∃ t t', its[j]? = some (.ref (Ts j)) ∧ s.heap.get? (Ts j) = some (tupObj ps[j].1 ps[j].2 t t') := fun j hj => by
    have := (hT.2 j hj).choose_spec
    obtain ⟨t, t', a, b⟩ := this
    refine ⟨t, t', ?_, ?_⟩ <;> simp only [Ts, dif_pos hj] <;> assumption
  let vals : Nat → Array Value := fun j => if hj : j < ps.length then #[.str ps[j].1 (hTs j hj).choose, .str ps[j].2 (hTs j hj).choose_spec.choose] else #[]
  have hvals : ∀ j (hj : j < ps.length), its[j]? = some (.ref (Ts j)) ∧ s.heap.get? (Ts j) = some { cls := .type "tuple", data := .seq (vals j) } := fun j hj => by
    have := (hTs j hj).choose_spec.choose_spec
    simp only [vals, dif_pos hj]
    exact this
  have hsz := hT.1
  have inP : ∀ j, j < ps.length → Ts j ≠ P := fun j hj e => by
    have h1 := (hvals j hj).2
    rw [e, (N _ hPn).1] at h1
    cases h1
  have qP : q ≠ P := fun e => by
    have h1 := (N _ hx).1
    rw [e, (N _ hPn).1] at h1
    cases h1
  have W := fun (A' : Around) (hA : A'.handled = none) => walks_acc (prog := prog) (w := w) hA s.heap.objs.size q (Nat.ne_of_lt (Heap.lt_size (N _ hx).1)) its Ts vals (fun j hj => (hvals j (by omega)).1) (fun j hj => Nat.ne_of_lt (Heap.lt_size (hvals j (by omega)).2))
  have hIP : s.heap.objs.size ≠ P := Nat.ne_of_gt (Heap.lt_size (N _ hPn).1)
  have hIt : h₃.IsListIter s.heap.objs.size q 0 := ⟨_, k₃ _ _ hIP (Heap.get?_push_size _ rfl), rfl, rfl⟩
  have hSq : SeqAt h₃ q its := ⟨_, _, k₃ _ _ qP (Heap.get?_push_of_some _ (N _ hx).1), rfl⟩
  have hTu : ∀ j, j < its.size → h₃.IsTuple (Ts j) (vals j) := fun j hj => ⟨_, k₃ _ _ (inP j (by omega)) (Heap.get?_push_of_some _ (hvals j (by omega)).2), rfl, _, rfl⟩
  have hPt : ∀ j v, (j < its.size ∧ v = vals j) → ∃ hj : j < ps.length, ∃ t t', v = #[.str ps[j].1 t, .str ps[j].2 t'] := fun j v hv => by
    have hj : j < ps.length := by omega
    refine ⟨hj, ?_⟩
    rw [hv.2]
    simp only [vals, dif_pos hj]
    exact ⟨_, _, rfl⟩
  refine ⟨s.heap.objs.size, _, _, _, _, _, _, fun _ => true, fun j y => ∃ hj : j < ps.length, val ps[j] y, rfl, W, (fun j v hv => ?_), ⟨hIt, hSq, hTu⟩, ?_, T.nolimit.keeps kg, ?_, ?_, ?_⟩
  · obtain ⟨hj, t, t', e⟩ := hPt j v hv
    exact ⟨_, _, e⟩
  · intro b hb
    show b < h₃.objs.size
    rcases List.mem_cons.mp hb with rfl | hb
    · exact Nat.lt_of_lt_of_le (Nat.lt_succ_self _) hz₃
    rcases List.mem_cons.mp hb with rfl | hb
    · exact Heap.lt_size (hSq.choose_spec.choose_spec.1)
    · obtain ⟨j, hj, rfl⟩ := List.mem_map.mp hb
      exact Heap.lt_size (hTu j (List.mem_range.mp hj)).choose_spec.1
  · intro hm
    have h1 := List.mem_singleton.mp hm
    obtain ⟨mc, hn, _⟩ := (T.nolimit.keeps F.keep)
    exact absurd hn.lt (by rw [← h1]; exact Nat.lt_irrefl _)
  · intro href hk
    have fr : ∀ (u : Shared) m₂, u.heap.Ns h₃.objs.size m₂ → (∀ b ∈ List.range h₃.objs.size, b ∉ [s.heap.objs.size] → ∀ o, href.get? b = some o → u.heap.get? b = some o) → Fr g h₃.objs.size u.heap m₂ := fun u m₂ hn hkp =>
      ⟨hn, fun b o e => hkp b (List.mem_range.mpr (Heap.lt_size (kg b o e))) (fun hm => absurd (hgs b o e) (by rw [List.mem_singleton.mp hm]; exact Nat.lt_irrefl _)) o (hk b o (kg b o e)), Nat.le_trans F.above (Nat.le_of_lt (Nat.lt_trans hLs (Nat.lt_of_lt_of_le (Nat.lt_succ_self _) hz₃)))⟩
    refine ⟨fun A' E' j va vb u m₂ hA hD hU hP hn hma hmb hkp => ?_, fun A' E' j va vb u m₂ hA hD hU hP hp hn hma hmb hkp => ?_⟩
    · simp only [List.forIn_nil]
      exact wpAny_pure ⟨rfl, u.heap, u.toks, rfl, fun _ _ e => e⟩
    · obtain ⟨hj, t, t', e⟩ := hPt j _ hP
      obtain ⟨rfl, rfl⟩ : va = .str ps[j].1 t ∧ vb = .str ps[j].2 t' := by simpa using congrArg Array.toList e
      have em : (fun y => if y = xa then some (Value.str ps[j].1 t) else if y = xb then some (Value.str ps[j].2 t') else m₂ y) = m₂ := by
        funext y
        by_cases h1 : y = xa
        · simp [h1, hma]
        · by_cases h2 : y = xb
          · simp [h1, h2, hmb, Ne.symm hab]
          · simp [h1, h2]
      exact wpAny_mono (helt A' E' _ cv ps[j].1 ps[j].2 t t' u m₂ hA hD hU (List.getElem_mem hj) (by rw [em]; exact fr u m₂ hn hkp)) (fun y s₃ z => ⟨⟨hj, z.1⟩, z.2⟩) fun _ _ z => z
  · intro a h₅ tk₅ gs hgb hag hsz₅ hk₅ W₅ hat
    have N5 : News g L h₅ ((P, tabObj tb') :: rest) := fun x hx' => by
      rcases List.mem_cons.mp hx' with rfl | hx'
      · exact ⟨hk₅ _ _ hP₃, (N _ hPn).2⟩
      · obtain ⟨y, z⟩ := tk.sub _ hx'
        exact ⟨hk₅ _ _ (k₃ _ _ (Ne.symm (z _ (.head _))) (N1 _ y).1), (N _ y).2⟩
    have F5 : Fr g L h₅ m := by
      obtain ⟨oL, es, ep, hL, r⟩ := F1.ns
      exact ⟨⟨oL, es, ep, hk₅ _ _ (k₃ _ _ (Ne.symm hPL) hL), r⟩, fun b o e => hk₅ _ _ (kg b o e), F.above⟩
    have low : Low g L ((P, tabObj tb') :: rest) s.heap.objs.size := ⟨hgs, hLs, fun x hx' => by
      rcases List.mem_cons.mp hx' with rfl | hx'
      · exact Heap.lt_size (N _ hPn).1
      · exact Heap.lt_size (N _ (tk.sub _ hx').1).1⟩
    refine h a h₅ ⟨_, gb.push hgb⟩ tk₅ tb' ok' F5 N5 low ?_
    have hpass : passing (fun _ => true) its.size 0 = List.range its.size := by unfold passing; simp
    have hlen : (passing (fun _ => true) its.size 0).length = ps.length := by rw [hpass, List.length_range, hsz]
    refine ⟨_, _, _, _, walksS_mono (hlen ▸ W₅) (fun j v z => ?_), fun h' tk' htk hk' => W₅.frame 0 _ h' tk' hat htk fun b _ o e => hk' b o e, ?_, List.mem_cons_self, fun i s' st => st.1.typeIs, fun x y hx hy => hx.moved hy, ?_⟩
    · obtain ⟨i, hi, z⟩ := z
      rw [hpass] at hi
      have : i = j := by
        rw [List.getElem?_range] at hi
        · exact (Option.some.inj hi).symm
        · exact (List.getElem?_eq_some_iff.mp hi).1 |> fun h => by simpa using h
      rw [← this]; exact z
    · intro b hb
      show b < h₅.objs.size
      rw [hsz₅]
      rcases List.mem_cons.mp hb with rfl | hb
      · exact Nat.lt_succ_self _
      · rcases List.mem_cons.mp hb with rfl | hb
        · exact Nat.lt_succ_of_lt hag
        · exact Nat.lt_succ_of_lt (Nat.lt_trans (List.mem_range.mp hb) hag)
    · intro b hb
      rcases List.mem_cons.mp hb with rfl | hb
      · exact Nat.le_of_lt (Nat.lt_of_lt_of_le (Nat.lt_succ_self _) hz₃)
      · rw [List.mem_singleton.mp hb]; exact Nat.le_refl _
end
end Mine
end
section
open PySem PySem.W PyProof.Rows PySem.Calls PySem.Spec
set_option maxHeartbeats 8000000
namespace Mine
noncomputable def lenP (ps : List (Str × Str)) : Int := (ps.map fun p => ((p.1.length : Int) + (p.2.length : Int))).sum
noncomputable def lenAt (ps : List (Str × Str)) (j : Nat) : Int := (ps[j]?.map fun p => ((p.1.length : Int) + (p.2.length : Int))).getD 0
theorem preSum_ext {f g : Nat → Int} {n : Nat} (h : ∀ j, j < n → f j = g j) : preSum f n = preSum g n := by
  induction n with
  | zero => rfl
  | succ n ih => rw [preSum, preSum, ih fun j hj => h j (Nat.lt_succ_of_lt hj), h n (Nat.lt_succ_self n)]
theorem preSum_shift (i : Int) (f : Nat → Int) : ∀ n, preSum (fun j => match j with | 0 => i | j + 1 => f j) (n + 1) = i + preSum f n
  | 0 => by simp [preSum]
  | n + 1 => by rw [preSum, preSum_shift i f n, preSum]; simp [Int.add_assoc]
theorem preSum_lenAt (ps : List (Str × Str)) : preSum (lenAt ps) ps.length = lenP ps := by
  have key : ∀ n, n ≤ ps.length → preSum (lenAt ps) n = lenP (ps.take n) := by
    intro n
    induction n with
    | zero => intro _; rfl
    | succ n ih =>
      intro h
      rw [preSum, ih (by omega), List.take_add_one]
      have : n < ps.length := by omega
      simp only [lenAt, lenP, this, List.getElem?_eq_getElem, Option.toList_some, List.map_append, List.sum_append, Option.map_some, Option.getD_some, List.map_cons, List.map_nil, List.sum_cons, List.sum_nil, Int.add_zero]
  have := key ps.length (Nat.le_refl _)
  rwa [List.take_length] at this
theorem walksS_shift {prog : Program} {w : World} {A : Around} {I : Addr} {fp wr : List Addr} {G : Array GenState → Array GenState → Prop} {n : Nat} {P : Nat → Value → Prop} {St : Nat → Shared → Prop}
    (W : WalksS prog w A I fp wr G n P St) (v0 : Value) : WalksS prog w A I fp wr G (n + 1) (fun j v => match j with | 0 => v = v0 | j + 1 => P j v) (fun j s => match j with | 0 => False | j + 1 => St j s) where
  sub := W.sub
  grefl := W.grefl
  gtrans := W.gtrans
  frame := fun i s h' tk st htk hk => by cases i with | zero => exact st.elim | succ i => exact W.frame i s h' tk st htk hk
  item := fun i s Q E hi st hQ => by cases i with | zero => exact st.elim | succ i => exact W.item i s Q E (by omega) st fun v s' hP hst hm => hQ v s' hP hst hm
  done := fun s Q E st hQ => W.done s Q E st hQ
  self := fun i s Q E st hQ => by cases i with | zero => exact st.elim | succ i => exact W.self i s Q E st hQ

section
variable {prog : Program} {w : World} {A : Around} {E : Value → Shared → Prop} {s : Shared}
theorem call_sum2 {I : Addr} {fp wr : List Addr} {G : Array GenState → Array GenState → Prop} {n : Nat} {P : Nat → Value → Prop} {St : Nat → Shared → Prop} {val : Nat → Int} {i0 : Int} {t0 : Tok} {Q : Value → Shared → Prop}
    (W : WalksS prog w A.in1 I fp wr G n P St) (hst : ∀ tk, s.toks ≤ tk → St 0 { s with toks := tk }) (hfp : ∀ b ∈ fp, b < s.heap.objs.size) (hval : ∀ i v, P i v → ∃ t, v = .int (val i) t)
    (hQ : ∀ s' t', Moved wr G s s' → Q (.int (i0 + preSum val n) t') s') :
    wpAny (model prog w) A (call (.builtin "sum") [.ref I, .int i0 t0]) Q E s := by
  refine call_function_tree F.kind_sum F.plain_sum F.entry_sum (by unfold argsOk; kernel_rfl) ?_
  unfold Builtin.«sum»
  simp only [List.length_cons, List.length_nil]
  rw [if_neg (by decide)]
  refine wpAny_bind (wpAny_of_eq (show Builtin.Builtins.bindParams "sum" ["start"] 0 ⟨[.int i0 t0], []⟩ = pure [some (.int i0 t0)] from rfl) ?_)
  refine wpAny_bind (W.self 0 s _ _ (hst s.toks (Nat.le_refl _)) ?_)
  have W' := walksS_shift W (.int i0 t0)
  have go : ∀ (st : Int) (tA : Tok) (u : Shared), (st = 0 ∨ st = 2) → (∃ tk, s.toks ≤ tk ∧ u = { s with toks := tk }) →
      wpAny (model prog w) A.in1 (newList [.int i0 tA] >>= fun l => again (.builtin "sum.loop" ⟨[.ref I, l, rawInt st, rawInt 0], []⟩)) (fun fin s' => match fin with
        | .done f => (match (Except.ok f : Result) with | .ok (.ret v) => Q v s' | .ok _ => False | .error e => E e s')
        | .again c' => c'.quiet = true ∧ codeAny (model prog w) A c' (fun r s' => match r with | .ok (.ret v) => Q v s' | .ok _ => False | .error e => E e s') s') (fun e s' => E e s') u := by
    rintro st tA u hst2 ⟨tk, htk, rfl⟩
    refine wpAny_bind (wpAny_newObj_type ?_)
    have hSf : s.heap.objs.size ∉ fp := fun hm => Nat.lt_irrefl _ (hfp _ hm)
    refine wpAny_pure ⟨plainId_quiet F.plain_sum_loop _, codeAny_sum_loopAnyS W' (fun j => match j with | 0 => i0 | j + 1 => val j) (fun j v hv => by cases j with | zero => exact ⟨t0, hv⟩ | succ j => exact hval j v hv) s.heap.objs.size hSf n 1 _ tA 0 st hst2 (by omega) (by omega)
      (W.frame 0 { s with toks := tk } _ _ (hst tk htk) (Nat.le_refl _) fun b _ o e => Heap.get?_push_of_some _ e) ?_ fun s' t' hm => ?_⟩
    · rw [Heap.get?_push_size _ rfl]
      simp [preSum]
    · rw [preSum_shift i0 val n]
      refine hQ s' t' ?_
      have hm2 := Moved.drop_new (s₂ := s) (o := { cls := .type "list", data := .seq ([Value.int i0 tA] : List Value).toArray }) (tk := tk) hm htk
      exact hm2
  have fin : ∀ (st : Int) (tA : Tok) (u : Shared), (st = 0 ∨ st = 2) → (∃ tk, s.toks ≤ tk ∧ u = { s with toks := tk }) →
      wpAny (model prog w) A.in1 ((forIn [("str", "strings", "''"), ("bytes", "bytes", "b''"), ("bytearray", "bytearray", "b''")] PUnit.unit fun (x : String × String × String) r => (do
        if ← isInstance (.int i0 tA) (.type x.1) then
          rule "sum.start-refused"; raiseError "TypeError" s!"sum() can't sum {x.2.1} [use {x.2.2}.join(seq) instead]"
        pure (ForInStep.yield PUnit.unit))) >>= fun _ => newList [.int i0 tA] >>= fun l => again (.builtin "sum.loop" ⟨[.ref I, l, rawInt st, rawInt 0], []⟩)) (fun fin s' => match fin with
        | .done f => (match (Except.ok f : Result) with | .ok (.ret v) => Q v s' | .ok _ => False | .error e => E e s')
        | .again c' => c'.quiet = true ∧ codeAny (model prog w) A c' (fun r s' => match r with | .ok (.ret v) => Q v s' | .ok _ => False | .error e => E e s') s') (fun e s' => E e s') u := by
    intro st tA u hst2 hu
    have base := go st tA u hst2 hu
    simp only [List.forIn_cons, List.forIn_nil]
    refine wpAny_bind (wpAny_bind (wpAny_bind (wpAny_isInstance (T := "int") (b := false) (typeIs_int _ _ _) PySem.sub_int_str ?_)))
    simp only [Bool.false_eq_true, if_false]
    refine wpAny_pure (wpAny_bind (wpAny_bind (wpAny_isInstance (T := "int") (b := false) (typeIs_int _ _ _) PySem.sub_int_bytes ?_)))
    simp only [Bool.false_eq_true, if_false]
    refine wpAny_pure (wpAny_bind (wpAny_bind (wpAny_isInstance (T := "int") (b := false) (typeIs_int _ _ _) PySem.sub_int_bytearray ?_)))
    simp only [Bool.false_eq_true, if_false]
    exact wpAny_pure (wpAny_pure base)
  dsimp only
  split
  · refine wpAny_bind (wpAny_rule (wpAny_bind (wpAny_mkInt (wpAny_bind (wpAny_pure ?_)))))
    exact fin 0 _ _ (.inl rfl) ⟨_, Nat.le_succ _, rfl⟩
  · refine wpAny_bind (wpAny_pure ?_)
    exact fin 2 _ _ (.inr rfl) ⟨s.toks, Nat.le_refl _, rfl⟩
end
end Mine
end
section
open PySem PySem.W PyProof.Rows PySem.Calls PySem.Spec
set_option maxHeartbeats 8000000
namespace Mine
noncomputable def cat (l : List Str) : Str := ⟨(l.flatMap fun x => x.cps.toList).toArray⟩
noncomputable def txt (ps : List (Str × Str)) : Str := ⟨(ps.flatMap fun p => p.1.cps.toList ++ p.2.cps.toList).toArray⟩
theorem cat_cons (x : Str) (l : List Str) : cat (x :: l) = ⟨x.cps ++ (cat l).cps⟩ := by
  unfold cat
  congr 1
  apply Array.ext'
  simp
theorem join_nil_cat (l : List Str) : Txt.join ⟨#[]⟩ l = cat l := by
  show Builtin.Str.glued _ _ = _
  rw [StrLaws.glued_eq_join]
  induction l with
  | nil => rfl
  | cons x r ih =>
    rw [cat_cons, ← ih]
    cases r with
    | nil => exact Str.ext' (by simp [Str.join, Str.empty])
    | cons y r => 
      show x ++ ⟨#[]⟩ ++ Str.join ⟨#[]⟩ (y :: r) = _
      exact Str.ext' (by simp [Str.cps_append])
theorem cat_length (l : List Str) : (cat l).length = (l.map (·.length)).sum := by
  induction l with
  | nil => rfl
  | cons x r ih =>
    rw [cat_cons]
    show (x.cps ++ (cat r).cps).size = _
    rw [Array.size_append, List.map_cons, List.sum_cons, ← ih]
    rfl
theorem cat_pairs (ps : List (Str × Str)) : cat (ps.map fun p => cat [p.1, p.2]) = txt ps := by
  unfold cat txt
  congr 2
  induction ps with
  | nil => rfl
  | cons p r ih =>
    rw [List.map_cons, List.flatMap_cons, List.flatMap_cons, ih]
    simp
theorem txt_length (ps : List (Str × Str)) : ((txt ps).length : Int) = lenP ps := by
  rw [← cat_pairs, cat_length]
  unfold lenP
  induction ps with
  | nil => rfl
  | cons p r ih =>
    simp only [List.map_cons, List.sum_cons, Int.natCast_add] at *
    rw [ih, cat_length]
    simp
theorem join_fits (l : List Str) (n : Nat) (h : (l.map (·.length)).sum ≤ n) (hn : n ≤ sizeLine) : JoinOk ⟨#[]⟩ l = true := by
  unfold JoinOk
  have key : ∀ (l : List Str) (k : Nat), l.foldl (fun (x1 : Nat) (x2 : Str) => x1 + x2.length + (⟨#[]⟩ : Str).length) k = k + (l.map (·.length)).sum := by
    intro l
    induction l with
    | nil => intro k; rfl
    | cons x r ih =>
      intro k
      rw [List.foldl_cons, ih, List.map_cons, List.sum_cons]
      show k + x.length + 0 + _ = _
      omega
  have e : l.toArray.foldl (fun (x1 : Nat) (x2 : Str) => x1 + x2.length + (⟨#[]⟩ : Str).length) 0 = (l.map (·.length)).sum := by
    rw [List.foldl_toArray, key]; simp
  rw [e]
  simp only [Builtin.Str.tooLong, Bool.not_eq_true', decide_eq_false_iff_not]
  omega
section
variable {prog : Program} {w : World} {A : Around} {E : Value → Shared → Prop} {s : Shared} {g : Heap} {L : Addr} {m : Str → Option Value} {news : List (Addr × Obj)}
theorem fr_moved {Z : Nat} {wr : List Addr} {G : Array GenState → Array GenState → Prop} {s s' : Shared} (F : Fr g L s.heap m) (N : News g L s.heap news) (l : Low g L news Z) (hw : ∀ b ∈ wr, Z ≤ b) (M : Moved wr G s s') : Fr g L s'.heap m ∧ News g L s'.heap news := by
  have no : ∀ b, b < Z → b ∉ wr := fun b hb hm => Nat.lt_irrefl _ (Nat.lt_of_lt_of_le hb (hw b hm))
  obtain ⟨oL, es, ep, hL, r⟩ := F.ns
  exact ⟨⟨⟨oL, es, ep, M.heap _ _ (no _ l.loc) hL, r⟩, fun b o e => M.heap _ _ (no _ (l.base b o e)) (F.keep b o e), F.above⟩, fun p hp => ⟨M.heap _ _ (no _ (l.led p hp)) (N p hp).1, (N p hp).2⟩⟩
theorem sum_K {Z a : Nat} {h : Heap} {gs : Array GenState} {dr : Drawn} {tk0 tk1 : Nat} {os : OsState} {ps : List (Str × Str)} {val : Str × Str → Value → Prop} {i0 : Int} {t0 : Tok} {Q : Value → Shared → Prop}
    (F : Fr g L h m) (N : News g L h news) (l : Low g L news Z) (Gn : GenR prog w A Z a ps.length (fun j y => ∃ hj : j < ps.length, val ps[j] y) ⟨h, gs, dr, tk0, os⟩) (gb : AllBare gs) (htk : tk0 ≤ tk1)
    (hv : ∀ p y, val p y → ∃ t, y = .int ((p.1.length : Int) + (p.2.length : Int)) t)
    (hq : ∀ h' (gs' : BG) tk' t', Fr g L h' m → News g L h' news → Q (.int (i0 + lenP ps) t') ⟨h', gs'.1, dr, tk', os⟩) :
    wpAny (model prog w) A (call (.builtin "sum") [.ref a, .int i0 t0]) Q E ⟨h, gs, dr, tk1, os⟩ := by
  obtain ⟨fp, wr, G, St, W, hst, hfp, ha, hty, hgg, hw⟩ := Gn
  refine call_sum2 (s := ⟨h, gs, dr, tk1, os⟩) (val := lenAt ps) W.of_in1.of_in1.of_in1 (fun tk hk => hst h tk (Nat.le_trans htk hk) fun _ _ e => e) hfp (fun j y z => ?_) fun s' t' M => ?_
  · obtain ⟨hj, z⟩ := z
    obtain ⟨t, rfl⟩ := hv _ _ z
    exact ⟨t, by simp [lenAt, hj]⟩
  · rw [preSum_lenAt]
    obtain ⟨F', N'⟩ := fr_moved (s := ⟨h, gs, dr, tk1, os⟩) F N l hw M
    have hb2 := hgg _ _ gb M.gens
    obtain ⟨h', g', d', t2, os'⟩ := s'
    have e1 : d' = dr := M.drawn
    have e2 : os' = os := M.os
    subst e1 e2
    exact hq h' ⟨g', hb2⟩ t2 t' F' N'
theorem join_K {Z a : Nat} {h : Heap} {gs : Array GenState} {dr : Drawn} {tk0 tk1 : Nat} {os : OsState} {ps : List (Str × Str)} {val : Str × Str → Value → Prop} {t0 : Tok} {Q : Value → Shared → Prop}
    (F : Fr g L h m) (N : News g L h news) (l : Low g L news Z) (Gn : GenR prog w A Z a ps.length (fun j y => ∃ hj : j < ps.length, val ps[j] y) ⟨h, gs, dr, tk0, os⟩) (gb : AllBare gs) (htk : tk0 ≤ tk1)
    (hv : ∀ p y, val p y → ∃ t, y = .str (cat [p.1, p.2]) t) (hl : lenP ps ≤ 100000) (hn : ps.length ≤ 100000)
    (hq : ∀ h' (gs' : BG) tk' t', Fr g L h' m → News g L h' news → Q (.str (txt ps) t') ⟨h', gs'.1, dr, tk', os⟩) :
    wpAny (model prog w) A (call (.builtin "str.join") [.str ⟨#[]⟩ t0, .ref a]) Q E ⟨h, gs, dr, tk1, os⟩ := by
  obtain ⟨fp, wr, G, St, W, hst, hfp, ha, hty, hgg, hw⟩ := Gn
  refine SC.joinGen (s := ⟨h, gs, dr, tk1, os⟩) W.of_in1.of_in1 hty (hst h tk1 htk fun _ _ e => e) hfp ha (fun j y z => ?_) (fun s' ls M hi => ?_) (by rw [sizeLine_eq]; omega)
  · obtain ⟨hj, z⟩ := z
    obtain ⟨t, rfl⟩ := hv _ _ z
    exact ⟨_, t, rfl⟩
  · obtain ⟨F', N'⟩ := fr_moved (s := ⟨h, gs, dr, tk1, os⟩) F N l hw M
    have hb2 := hgg _ _ gb M.gens
    obtain ⟨h', g', d', t2, os'⟩ := s'
    have e1 : d' = dr := M.drawn
    have e2 : os' = os := M.os
    subst e1 e2
    have e : ls.map (·.1) = ps.map fun p => cat [p.1, p.2] := by
      have hsz : ls.length = ps.length := by have := hi.1; simpa [strValues] using this
      apply List.ext_getElem (by simp [hsz])
      intro j h1 h2
      simp only [List.length_map] at h1 h2
      obtain ⟨hj, z⟩ := hi.2 j (.str ls[j].1 ls[j].2) (by simp [strValues, h1])
      obtain ⟨t, e⟩ := hv _ _ z
      injection e with e _
      simp [e]
    rw [e, join_nil_cat, cat_pairs]
    refine ⟨join_fits _ 200000 ?_ (by rw [sizeLine_eq]; omega), fun t' k => hq h' ⟨g', hb2⟩ k t' F' N'⟩
    rw [← cat_length, cat_pairs]
    have := txt_length ps
    omega
end
section
variable {h h' g b₀ : Heap} {its : Array Value} {ps : List (Str × Str)} {S : List (Addr × Obj)} {L : Addr} {m : Str → Option Value}
theorem TF.keeps (hT : TF h its ps) (k : ∀ b o, h.get? b = some o → h'.get? b = some o) : TF h' its ps :=
  ⟨hT.1, fun j hj => let ⟨tp, t, t', a, b⟩ := hT.2 j hj; ⟨tp, t, t', a, k _ _ b⟩⟩
theorem TF.kp (hT : TF h its ps) (O : Own b₀ h S) (hn : ∀ p ∈ S, p.2.cls ≠ .type "tuple") (k : Kp S h h') : TF h' its ps :=
  ⟨hT.1, fun j hj => let ⟨tp, t, t', a, b⟩ := hT.2 j hj; ⟨tp, t, t', a, k _ _ b fun p hp e => hn p hp (by
    have := (O.mem p hp).1
    rw [e, b] at this
    rw [← Option.some.inj this])⟩⟩
theorem TF.push {v : Value} {f r : Str} {t t' : Tok} {tp : Addr} (hT : TF h its ps) (e : v = .ref tp) (ht : h.get? tp = some (tupObj f r t t')) : TF h (its.push v) (ps ++ [(f, r)]) := by
  refine ⟨by rw [Array.size_push, hT.1]; simp, fun j hj => ?_⟩
  simp only [List.length_append, List.length_singleton] at hj
  by_cases hl : j < ps.length
  · obtain ⟨tp', u, u', a, b⟩ := hT.2 j hl
    refine ⟨tp', u, u', ?_, ?_⟩
    · rw [Array.getElem?_push, if_neg (by have := hT.1; omega)]; exact a
    · rw [List.getElem_append_left hl]; exact b
  · have hj' : j = ps.length := by omega
    subst hj'
    refine ⟨tp, t, t', ?_, ?_⟩
    · rw [Array.getElem?_push, if_pos hT.1.symm, e]
    · simpa using ht
theorem TF.nil : TF h #[] [] := ⟨rfl, fun j hj => by simp at hj⟩
theorem TF.one {f r : Str} {t t' : Tok} {tp : Addr} (ht : h.get? tp = some (tupObj f r t t')) : TF h #[.ref tp] [(f, r)] := TF.push (its := #[]) TF.nil rfl ht
theorem TF.front {v : Value} {f r : Str} (hT : TF h (its.push v) (ps ++ [(f, r)])) : TF h its ps ∧ ∃ tp t t', v = .ref tp ∧ h.get? tp = some (tupObj f r t t') := by
  have hsz : its.size = ps.length := by have := hT.1; rw [Array.size_push, List.length_append, List.length_singleton] at this; omega
  refine ⟨⟨hsz, fun j hj => ?_⟩, ?_⟩
  · obtain ⟨tp, t, t', a, b⟩ := hT.2 j (by rw [List.length_append]; omega)
    rw [Array.getElem?_push, if_neg (by omega)] at a
    rw [List.getElem_append_left hj] at b
    exact ⟨tp, t, t', a, b⟩
  · obtain ⟨tp, t, t', a, b⟩ := hT.2 ps.length (by simp)
    rw [Array.getElem?_push, if_pos hsz.symm] at a
    exact ⟨tp, t, t', Option.some.inj a, by simpa using b⟩
end
theorem news_nil {g h : Heap} {L : Addr} {m : Str → Option Value} (F : Fr g L h m) : News g L h [] := News.nil
noncomputable abbrev accT (P : Params) (q d : Nat) (items : Array Value) (n kt : Nat) (i : Int) (it : Nat) (tb : Array Value) : List (Addr × Obj) := [(q, accObj d items n), (d, dictOf [initEnt P kt i it] 1), (161, tabObj tb)]
noncomputable abbrev posLen : Pos := { line := 112, col := 19, endLine := 112, endCol := 63 }
end Mine
end
section
open PySem PySem.W PyProof.Rows PySem.Calls PySem.Spec
set_option maxHeartbeats 2000000
namespace Mine
noncomputable def Short (ps : List (Str × Str)) : Prop := ps.length ≤ 100 ∧ ∀ p ∈ ps, p.1.length ≤ 100 ∧ p.2.length ≤ 100
theorem lenP_le {ps : List (Str × Str)} (h : ∀ p ∈ ps, p.1.length ≤ 100 ∧ p.2.length ≤ 100) : lenP ps ≤ 200 * ps.length := by
  induction ps with
  | nil => simp [lenP]
  | cons p r ih =>
    have h1 := h p (.head _)
    have h2 := ih fun q hq => h q (.tail _ hq)
    simp only [lenP, List.map_cons, List.sum_cons, List.length_cons] at *
    omega
theorem lenP_nonneg (ps : List (Str × Str)) : 0 ≤ lenP ps := by rw [← txt_length]; omega
section
variable {prog : Program} {w : World} {A : Around} {E : Value → Shared → Prop} {s : Shared} {K : Frag} {g : Heap} {L Cl a : Addr} {m mg mb : Str → Option Value} {p : Program} {loose : List Str} {mean : ExcName → Option Value} {sc : Scope} {cv cd : Value} {n : Str} {osc : Scope}
theorem elt_len {x y : Str} {f r : Str} {t t' : Tok} {p0 p1 p2 p3 p4 p5 p6 : Pos} (F : Fr g Cl s.heap m) (X : K.In g) (T : Top p loose mean mg mb g) (e : nsIn K mainGlobals "len" = some none) (hx : m x = some (.str f t)) (hy : m y = some (.str r t'))
    (hf : f.length ≤ 1000) (hr : r.length ≤ 1000) (hk : sc.kind = .function) (h1 : sc.names.lookup x = some .local) (h2 : sc.names.lookup y = some .local) (h3 : sc.names.lookup ("len" : Str) = some .globalImplicit) (d1 : (x == ("__debug__" : Str)) = false) (d2 : (y == ("__debug__" : Str)) = false) :
    wpAny (model prog w) A (eval (.BinOp (.Call (.Name "len" p0) [.Name x p1] [] p2) .Add (.Call (.Name "len" p3) [.Name y p4] [] p5) p6) (genEnv sc [] Cl cv builtinsNs (envX n osc L a cd [])))
      (fun y s₃ => (∃ t, y = .int ((f.length : Int) + (r.length : Int)) t) ∧ Keeps s s₃) E s := by
  have ml : mg ("len" : Str) = none := mg_none_of X T.g e
  have bl : mb ("len" : Str) = some (.builtin "len") := (T.builtins _ (by decide)).trans (by boot_fast)
  have hg : s.heap.Ns mainGlobals mg := T.g.keeps F.keep
  have hb : s.heap.Ns builtinsNs mb := T.b.keeps F.keep
  have nm : ∀ (u : Shared) (Q : Value → Shared → Prop) ps, u.heap = s.heap → Q (.builtin "len") u → wpAny (model prog w) A (eval (.Name ("len" : Str) ps) (genEnv sc [] Cl cv builtinsNs (envX n osc L a cd []))) Q E u := fun u Q ps hu hq =>
    Name_function_global hk h3 (loadGlobal_builtin (env := genEnv sc [] Cl cv builtinsNs (envX n osc L a cd [])) (hu ▸ hg) ml (hu ▸ hb) bl hq)
  have nl : ∀ (u : Shared) (Q : Value → Shared → Prop) (z : Str) (v : Value) ps, u.heap = s.heap → sc.names.lookup z = some .local → (z == ("__debug__" : Str)) = false → m z = some v → Q v u → wpAny (model prog w) A (eval (.Name z ps) (genEnv sc [] Cl cv builtinsNs (envX n osc L a cd []))) Q E u := fun u Q z v ps hu hl hd hv hq =>
    ldG (cenv := genEnv sc [] Cl cv builtinsNs (envX n osc L a cd [])) (hu ▸ F.ns) hv hq hk hl hd
  refine wpAny_BinOp ?_
  refine Call_Name1 (nm s _ _ rfl (PySem.callWith_builtin1 (nl s _ _ _ _ rfl h1 d1 hx (len_str (by omega) ?_))))
  refine Call_Name1 (nm _ _ _ rfl (PySem.callWith_builtin1 (nl _ _ _ _ _ rfl h2 d2 hy (len_str (by omega) ?_))))
  refine add_int ⟨⟨_, rfl⟩, s.heap, _, rfl, fun _ _ e => e⟩
theorem elt_join {x y : Str} {f r : Str} {t t' tz : Tok} {p0 p1 p2 p3 p4 p5 : Pos} {kk : Nat} {pl : Sem Bool} (F : Fr g Cl s.heap m) (X : K.In g) (T : Top p loose mean mg mb g) (e : nsIn K mainGlobals "EMPTYSTRING" = some (some (.str ⟨#[]⟩ tz))) (hx : m x = some (.str f t)) (hy : m y = some (.str r t'))
    (hf : f.length ≤ 1000) (hr : r.length ≤ 1000) (hk : sc.kind = .function) (h1 : sc.names.lookup x = some .local) (h2 : sc.names.lookup y = some .local) (h3 : sc.names.lookup ("EMPTYSTRING" : Str) = some .globalImplicit) (d1 : (x == ("__debug__" : Str)) = false) (d2 : (y == ("__debug__" : Str)) = false)
    (he : eval (.Call (.Attribute (.Name "EMPTYSTRING" p0) "join" p1) [.Tuple [.Name x p2, .Name y p3] kk p4] [] p5) (genEnv sc [] Cl cv builtinsNs (envX n osc L a cd [])) = (do
      let ov ← eval (.Name "EMPTYSTRING" p0) (genEnv sc [] Cl cv builtinsNs (envX n osc L a cd []))
      standAt p1.atName
      let (f, first) ← holding [ov] (getMethod ov "join" pl)
      callWith p5 f first (backTo p5 (starEach [.Tuple [.Name x p2, .Name y p3] kk p4] (genEnv sc [] Cl cv builtinsNs (envX n osc L a cd [])))) [])) :
    wpAny (model prog w) A (eval (.Call (.Attribute (.Name "EMPTYSTRING" p0) "join" p1) [.Tuple [.Name x p2, .Name y p3] kk p4] [] p5) (genEnv sc [] Cl cv builtinsNs (envX n osc L a cd [])))
      (fun y s₃ => (∃ t, y = .str (cat [f, r]) t) ∧ Keeps s s₃) E s := by
  have ml : mg ("EMPTYSTRING" : Str) = some (.str ⟨#[]⟩ tz) := mg_of X T.g e
  have hg : s.heap.Ns mainGlobals mg := T.g.keeps F.keep
  have nl : ∀ (u : Shared) (Q : Value → Shared → Prop) (z : Str) (v : Value) ps, u.heap = s.heap → sc.names.lookup z = some .local → (z == ("__debug__" : Str)) = false → m z = some v → Q v u → wpAny (model prog w) A (eval (.Name z ps) (genEnv sc [] Cl cv builtinsNs (envX n osc L a cd []))) Q E u := fun u Q z v ps hu hl hd hv hq =>
    ldG (cenv := genEnv sc [] Cl cv builtinsNs (envX n osc L a cd [])) (hu ▸ F.ns) hv hq hk hl hd
  refine MethodCall_ (pl := pl) ?_ he
  refine Name_function_global hk h3 (loadGlobal_global (env := genEnv sc [] Cl cv builtinsNs (envX n osc L a cd [])) hg ml ?_)
  refine GM.join ?_
  refine Calls.callWith_builtin rfl (Calls.evalArgs_plain (Calls.spliced_cons ?_))
  refine Tuple_ (k := kk) ?_
  refine Calls.spliced_cons (nl s _ _ _ _ rfl h1 d1 hx (Calls.spliced_cons (nl s _ _ _ _ rfl h2 d2 hy (Calls.spliced_nil ?_))))
  refine wpAny_newObj_type ?_
  refine Calls.spliced_nil ?_
  refine join_tuple (ys := [f, r]) ⟨_, Heap.get?_push_size _ rfl, rfl, _, rfl⟩ (.cons f t (.cons r t' .nil)) ?_ fun t' k => ⟨⟨t', ?_⟩, _, k, rfl, fun _ _ e => Heap.get?_push_of_some _ e⟩
  · have : (⟨#[]⟩ : Str).length = 0 := rfl
    simp; omega
  · rw [join_nil_cat]
end
end Mine
end
section
open PySem PySem.W PyProof.Rows PySem.Calls PySem.Spec
set_option maxHeartbeats 2000000
namespace Mine
section
variable {prog : Program} {w : World} {A : Around} {E : Value → Shared → Prop} {s : Shared} {K : Frag} {h₀ : Heap} {x C L f : Addr} {ox : Obj} {od : Option Obj} {m : Str → Option Value}
theorem truthy_L {Q : Bool → Shared → Prop} (F : Fr h₀ L s.heap m) (X₀ : K.In h₀) (I : InstAt s.heap x ox C od) (hb : findIn K (.ref C) "__bool__" = some none) (hs : findIn K (.ref C) "__len__" = some (some (.ref f))) (hf : isFn K (.ref f) = true)
    (h : wpAny (model prog w) A.in1 (call (.ref f) [.ref x]) (W.LenBack fun v s' => match v with | .int n _ => Q (n != 0) s' | _ => False) E s) : wpAny (model prog w) A (truthy (.ref x)) Q E s := by
  have X := X₀.keeps F.keep
  unfold truthy
  refine wpAny_bind (m := callSpecial? (.ref x) (Str.ofString "__bool__")) (wpAny_bind (wpAny_bind (I.type.here ((looks_findIn X hb).here (wpAny_pure ?_)))))
  refine wpAny_bind (wpAny_bind (I.type.here ((looks_findIn X hs).here ?_)))
  simp only [Option.isNone_some, Bool.false_eq_true, if_false]
  refine wpAny_bind (wpAny_runValue (codeAny_builtin entry_len ?_))
  rw [Around.under_plainId plain_len]
  unfold Builtin.«len»
  refine wpAny_bind (m := oneArg "len" _) (wpAny_pure ?_)
  refine wpAny_bind (m := callSpecial? (.ref x) (Str.ofString "__len__")) (special_fn X I hs (beq_iff_eq.mp hf) (wpAny_mono h (fun r s' hr => ?_) fun _ _ y => y))
  cases r <;> first | exact hr.elim | skip
  rename_i n u
  obtain ⟨⟨h0, h1⟩, hq⟩ := hr
  refine wpAny_bind (wpAny_holding (wpAny_pure ?_))
  refine wpAny_bind (wpAny_letGo ?_)
  show wpAny _ _ (if n < 0 then _ else _) _ _ _
  rw [if_neg (by omega)]
  show wpAny _ _ (if n ≥ 2 ^ 63 then _ else _) _ _ _
  rw [if_neg (by omega)]
  exact wpAny_bind (wpAny_mkInt (wpAny_pure (wpAny_pure hq)))
end
end Mine
end
section
open PySem PySem.W PyProof.Rows PySem.Calls PySem.Spec
set_option maxHeartbeats 2000000
namespace Mine
noncomputable def makesL (K : Frag) (C : Addr) : Bool := match K.lookup C with
  | some ⟨_, _, .cls cd, sl⟩ => !cd.hasDel && (sl.toList[4]?).join == some (.builtin "list.__new__") && cd.mro.contains (.ref C) && cd.mro.contains (.type "list") && !cd.mro.isEmpty &&
      specialIn K (.ref C) "__call__" == some (some (.builtin "type.__call__")) && instIn K (.ref C) (.type "type") == some true
  | _ => false
structure MadeL (M : Model) (h : Heap) (C : Addr) : Prop where
  obj : ∃ oc od cd sl, h.get? C = some ⟨oc, od, .cls cd, sl⟩ ∧ cd.hasDel = false ∧ cd.mro.isEmpty = false
  made : Looks M h (Bind.madeBy (.ref C)) (some "list.__new__")
  base : Looks M h (Bind.staticBase (.ref C)) (.ref C)
  self : Looks M h (isSubtype (.ref C) (.ref C)) true
  top : Looks M h (isSubtype (.ref C) (.type "list")) true
  call : Looks M h (specialOf (.ref C) "__call__") (some (.builtin "type.__call__"))
  typ : Looks M h (isInstance (.ref C) (.type "type")) true
theorem madeL_of {K : Frag} {M : Model} {h : Heap} (X : K.In h) {C : Addr} (e : makesL K C = true) : MadeL M h C := by
  unfold makesL at e
  split at e
  · rename_i oc od cd sl ho
    simp only [Bool.and_eq_true, Bool.not_eq_true', beq_iff_eq] at e
    obtain ⟨⟨⟨⟨⟨⟨e2, e3⟩, e5⟩, e6⟩, e4⟩, e7⟩, e8⟩ := e
    have hc : clsIn K C = some cd := by unfold clsIn; rw [ho]
    have hm : Looks M h (mroOf (.ref C)) cd.mro := (looks_clsIn X hc).andThen .now
    obtain ⟨c, l, hl⟩ : ∃ c l, cd.mro = c :: l := by cases q : cd.mro with | nil => rw [q] at e4; cases e4 | cons c l => exact ⟨c, l, rfl⟩
    have made : Looks M h (Bind.madeBy (.ref C)) (some "list.__new__") := by
      intro A Q E s k q
      unfold Bind.madeBy
      refine wpAny_bind (hm A _ E s k ?_)
      rw [hl, List.forIn_cons]
      refine wpAny_bind (wpAny_bind (wpAny_bind (wpAny_bind (wpAny_loadPart (k _ _ (X _ _ ho)) (wpAny_pure ?_)))))
      dsimp only
      rw [← Array.getElem?_toList, e3]
      exact wpAny_pure (wpAny_pure (wpAny_pure q))
    refine ⟨⟨oc, od, cd, sl, X _ _ ho, e2, e4⟩, made, ?_, looks_mroIn X ?_, looks_mroIn X ?_, looks_specialIn X e7, looks_instIn X e8⟩
    · intro A Q E s k q
      unfold Bind.staticBase
      refine wpAny_bind (hm A _ E s k ?_)
      rw [hl, List.forIn_cons]
      exact wpAny_bind (wpAny_bind (wpAny_bind (made A _ E s k (wpAny_pure (wpAny_pure (wpAny_pure q))))))
    · unfold mroIn; rw [hc, Option.bind_some, if_neg (by rw [e4]; decide), e5]
    · unfold mroIn; rw [hc, Option.bind_some, if_neg (by rw [e4]; decide), e6]
  · cases e
theorem lnew_kind : builtinKind "list.__new__" = some .builtinFn := by decide +kernel
theorem lnew_split : splitId "list.__new__" = some ("list", "__new__") := by decide +kernel

section
variable {prog : Program} {w : World} {A : Around} {K : Frag} {C : Addr} {R : Result → Shared → Prop} {h : Heap} {g : Array GenState} {d : Drawn} {t : Nat} {os : OsState}
noncomputable abbrev accNew (C dx : Addr) : Obj := ⟨.ref C, some dx, .seq #[] 0, #[]⟩
theorem newL {rest : List Value} (Y : MadeL (model prog w) h C)
    (hq : R (.ok (.ret (.ref (h.objs.size + 1)))) ⟨(h.push emptyDict).push (accNew C h.objs.size), g, d, t, os⟩) :
    codeAny (model prog w) A (.call (.builtin "list.__new__") ⟨.ref C :: rest, []⟩) R ⟨h, g, d, t, os⟩ := by
  obtain ⟨⟨oc, od, cd, sl, hC, e2, e4⟩, made, base, self, top, call, typ⟩ := Y
  refine codeAny_call_builtin_code (Code.quiet_builtin _ (by decide +kernel)) ?_
  simp only [checkBuiltinCall, lnew_kind, lnew_split]
  have hsig : (Manifest.signature? "list.__new__").map (fun sig => Bind.checkArgs "list.__new__" sig ⟨.ref C :: rest, []⟩) = some (pure ()) := by kernel_rfl
  have ity : Looks (model prog w) h (isType (.ref C)) true := fun A Q E s k q => by
    obtain ⟨h', g', d', t', os'⟩ := s
    exact ks_wpAny_isType_cls (k _ _ hC) rfl q
  cases hs : Manifest.signature? "list.__new__" with
  | none => rw [hs] at hsig; cases hsig
  | some sig =>
    rw [hs] at hsig
    have args : Bind.checkArgs "list.__new__" sig ⟨.ref C :: rest, []⟩ = pure () := Option.some.inj hsig
    have hnm : (("__new__" : String) == "__new__") = true := by decide
    have hcn : (Manifest.canonical "list.__new__" != Manifest.canonical "list.__new__") = false := by simp
    dsimp only
    rw [args]
    repeat (first | simp only [hnm, hcn, if_true, Bool.not_true, bne_self_eq_false, Bool.false_eq_true, if_false] | lk)
    refine codeAny_builtin_stack F.entry_list_new rfl fun p st => ?_
    have hown := owner_list_new
    simp only [hown]
    repeat (first | simp only [Bool.not_true, Bool.false_eq_true, if_false] | lk)
    refine wpAny_load (Heap.get?_push_of_some _ (Heap.get?_push_of_some _ hC)) ?_
    refine wpAny_pure ?_
    rw [e2]
    refine wpAny_pure (wpAny_pure ?_)
    show R _ _
    rw [Heap.size_push]
    exact hq
theorem make_coreL {rest : List Value} {init : Value} (Y : MadeL (model prog w) h C) (hi : Looks (model prog w) h (typeLookup (.ref C) "__init__") (some init))
    (hb : ∀ self, Looks (model prog w) h (bindSpecial init self) (init, [self]))
    (hq : codeAny (model prog w) (A.under (.builtin "type.__call__" ⟨.ref C :: rest, []⟩)) (.call init ⟨.ref (h.objs.size + 1) :: rest, []⟩) (InitBack (h.objs.size + 1) R) ⟨(h.push emptyDict).push (accNew C h.objs.size), g, d, t, os⟩) :
    codeAny (model prog w) A (.call (.ref C) ⟨rest, []⟩) R ⟨h, g, d, t, os⟩ := by
  have Y' := Y
  obtain ⟨⟨oc, od, cd, sl, hC, e2, e4⟩, made, base, self, top, call, typ⟩ := Y
  refine codeAny_of_tree ?_
  show wpAny _ _ (callAny (.ref C) _) _ _ _
  refine nd_load hC ?_
  show wpAny _ _ (callAny.viaDunder (.ref C) _) _ _ _
  unfold callAny.viaDunder
  refine wpAny_bind (call.at ?_)
  dsimp only
  rw [tc_bind]
  refine wpAny_bind (wpAny_pure (wpAny_bind (wpAny_pure ?_)))
  refine wpAny_pure (a := Fin.again (.call (.builtin "type.__call__") ⟨.ref C :: rest, []⟩)) (And.intro rfl ?_)
  refine codeAny_call_builtin_at (Code.quiet_builtin _ (by decide +kernel)) entry_typeCall (check_slot tc_kind tc_split typ (tc_args _ _ _) ?_)
  unfold Builtin.«type.__call__»
  have hm : Looks (model prog w) h (mroOf (.ref C)) cd.mro := ((Looks.ld (part := none) hC).andThen .now).andThen .now
  repeat (first | simp only [e4, Bool.false_eq_true, if_false] | with_reducible refine wpAny_call ?_ | lk)
  refine newL Y' ?_
  have k : ∀ b o, h.get? b = some o → ((h.push emptyDict).push (accNew C h.objs.size)).get? b = some o := fun b o e => Heap.get?_push_of_some _ (Heap.get?_push_of_some _ e)
  have hx : ((h.push emptyDict).push (accNew C h.objs.size)).get? (h.objs.size + 1) = some (accNew C h.objs.size) := by heap_get
  have t1 : Looks (model prog w) ((h.push emptyDict).push (accNew C h.objs.size)) (typeOf (.ref (h.objs.size + 1))) (.ref C) := (Looks.ld hx).andThen .now
  have s1 := self.keeps k
  have i1 := hi.keeps k
  have b1 := (hb (.ref (h.objs.size + 1))).keeps k
  unfold isInstance callSpecial? specialOf
  repeat (first | with_reducible refine wpAny_call ?_ | lk)
  refine codeAny_mono hq fun r s' z => ?_
  rcases r with e | (v | _ | _ | _) <;> first | exact z | exact z.elim | skip
  obtain ⟨rfl, z⟩ := z
  exact wpAny_pure (wpAny_pure z)
end
section
variable {prog : Program} {w : World} {A : Around} {K : Frag} {C x : Addr} {s : Shared} {h₀ : Heap} {L : Addr} {m : Str → Option Value} {news : List (Addr × Obj)} {R : Result → Shared → Prop}
theorem make_L {rest : List Value} {fI : Addr} (F : Fr h₀ L s.heap m) (N : News h₀ L s.heap news) (X : K.In s.heap) (hm : makesL K C = true)
    (hi : findIn K (.ref C) "__init__" = some (some (.ref fI))) (hf : typeIn K (.ref fI) = some (.type "function"))
    (h : ∀ x dx h', Fr h₀ L h' m → News h₀ L h' ((x, accNew C dx) :: (dx, emptyDict) :: news) → (∀ p ∈ news, p.1 < dx) → dx < x →
      codeAny (model prog w) (A.under (.builtin "type.__call__" ⟨.ref C :: rest, []⟩)) (.call (.ref fI) ⟨.ref x :: rest, []⟩) (InitBack x R) { s with heap := h' }) :
    codeAny (model prog w) A (.call (.ref C) ⟨rest, []⟩) R s := by
  obtain ⟨hh, g, d, t, os⟩ := s
  refine make_coreL (madeL_of X hm) (looks_findIn X hi) (fun self => bind_fn X self hf) (h _ hh.objs.size _ ((F.push _).push _) ?_ (fun p hp => Heap.lt_size (N p hp).1) (Nat.lt_succ_self _))
  have := (N.push F emptyDict).push (F.push _) (accNew C hh.objs.size)
  rwa [Heap.size_push] at this
end
end Mine
end
section
open PySem PySem.W PyProof.Rows PySem.Calls PySem.Spec
set_option maxHeartbeats 2000000
namespace Mine
theorem short_e : Short [(Str.ofString "", Str.ofString "")] := ⟨by decide, by decide⟩
theorem lenP_e : lenP [(Str.ofString "", Str.ofString "")] = 0 := rfl
section
variable {prog : Program} {w : World} {A : Around} {E : Value → Shared → Prop} {s : Shared} {K : Frag} {x C L f : Addr} {h₀ : Heap} {m : Str → Option Value} {ox : Obj} {od : Option Obj} {news : List (Addr × Obj)} {es : List DictEntry} {n : Nat}
theorem MethodStar {env : Env} {o e : PySem.Expr} {name : Str} {apos pos p : Pos} {Q : Value → Shared → Prop} (h : wpAny (model prog w) A (eval o env) (fun ov s₁ => wpAny (model prog w) A (getAttr ov name true) (fun f s₂ => wpAny (model prog w) A (callWith pos f [] (backTo pos (starEach [.Starred e p] env)) []) Q E s₂) E s₁) E s)
    (hb : attributeBase o name env (eval o env) = eval o env) (he : starEach [.Starred e p] env = [(true, eval e env)]) : wpAny (model prog w) A (eval (.Call (.Attribute o name apos) [.Starred e p] [] pos) env) Q E s := by
  show wpAny _ _ (do
    let ov ← attributeBase o name env (eval o env)
    standAt apos.atName
    methodCall o name apos pos env ov (1 + 0) (backTo pos (starEach [.Starred e p] env)) (backToKw pos [])) _ _ _
  rw [hb]
  refine wpAny_bind (wpAny_mono h (fun ov s₁ z => wpAny_bind (wpAny_standAt ?_)) fun _ _ z => z)
  unfold methodCall
  have hf : methodCallForm (1 + 0) (backTo pos (starEach [.Starred e p] env)) (backToKw pos []) = false := by rw [he]; rfl
  rw [hf]
  refine wpAny_bind (wpAny_holding ?_)
  unfold calleeOf
  rw [if_neg (by decide)]
  refine wpAny_bind (wpAny_mono z (fun f s₂ z2 => wpAny_pure (wpAny_bind ?_)) fun _ _ z => z)
  unfold methodCallPos
  exact wpAny_pure z2
theorem getbound_acc {name : Str} {expr : Bool} {Q : Value → Shared → Prop} (F : Fr h₀ L s.heap m) (X₀ : K.In h₀) (N : News h₀ L s.heap news) (I : InstAt s.heap x ox C (some (dictOf es n)))
    (hga : findIn K (.ref C) "__getattribute__" = some (some (.builtin "list.__getattribute__"))) (hk : findIn K (.ref C) "__getattr__" = some none) (hsub : subIn K (.ref C) (.type "list") = some true)
    (hh : hasDictIn K C = true) (ha : findIn K (.ref C) name = some (some (.ref f))) (hf : isFn K (.ref f) = true)
    (hgf : specialIn K (.ref f) "__get__" = some (some (.builtin "function.__get__"))) (ht : takesIn K (.ref f) = some false) (hc : copiedNames.contains name = false) (hl : getL name es = some none)
    (h : ∀ q h', Fr h₀ L h' m → News h₀ L h' ((q, methodObj (.ref f) (.ref x)) :: news) → (∀ p ∈ news, p.1 < q) → Q (.ref q) { s with heap := h', toks := s.toks + 1 }) : wpAny (model prog w) A (getAttr (.ref x) name expr) Q E s := by
  have X := X₀.keeps F.keep
  have hfo : findObj K C (some (dictOf es n)) name = some (.bind (.builtin "function.__get__") (.ref f)) := findObj_fn hh ha hgf ht hc (by show lookIn name (dictOf es n) = _; rw [lookIn_dict, hl])
  have fin : wpAny (model prog w) A.in1 (call (.builtin "function.__get__") [.ref f, .ref x, .ref C]) (fun v s' => Q v s' ∧ handedIn v = true) (fun _ _ => False) { s with toks := s.toks + 1 } :=
    wpAny_call (fn_get (s := { s with toks := s.toks + 1 }) X (beq_iff_eq.mp hf) ⟨h s.heap.objs.size _ (F.push _) (N.push F _) fun p hp => Heap.lt_size (N p hp).1, rfl⟩)
  obtain ⟨hh', g, d, t, os⟩ := s
  have L0 := I.type (M := model prog w)
  have L1 := looks_findIn (M := model prog w) X hga
  have L2 := looks_findIn (M := model prog w) X hk
  have L3 := looks_find (M := model prog w) X I hfo
  unfold getAttr getAttrBy
  refine wpAny_bind (wpAny_mkText (wpAny_holding (wpAny_bind (L0.at (wpAny_bind (L1.at ?_))))))
  show wpAny _ _ (getAttrByItsOwn _ _ _ _ _ _) _ _ _
  unfold getAttrByItsOwn
  refine wpAny_bind ?_
  show wpAny _ _ (typeLookup (.ref C) "__getattr__") _ _ _
  refine L2.at ?_
  refine wpAny_bind (wpAny_attempt (wpAny_holding ?_))
  unfold callGetattribute
  rw [if_neg (by simp [onTheHeap])]
  unfold boundAndCalled
  rw [PySem.F.slot_list_getattribute.bind]
  refine wpAny_bind (wpAny_pure ?_)
  show wpAny _ _ (call (.builtin "list.__getattribute__") [.ref x, .str name t]) _ _ _
  refine call_acc X I hsub (nm := "__getattribute__") (by decide +kernel) (.inl (by decide +kernel)) (by decide +kernel) PySem.F.entry_list_ga (PySem.F.args_list_getattribute_2 _ _) ?_
  refine wpAny_bind (wpAny_pure (wpAny_bind (wpAny_pure (wpAny_bind (L0.at (wpAny_bind (L3.at ?_)))))))
  refine wpAny_bind (wpAny_holding (wpAny_mono fin (fun v s' z => wpAny_pure ⟨v, rfl, ?_⟩) fun _ _ z => False.elim z))
  show wpAny _ _ (handedOut v) _ _ _
  rw [handedOut_of z.2]; exact wpAny_pure z.1
theorem callWith_star {env : Env} {e : PySem.Expr} {pos p : Pos} {q g : Addr} {self : Value} {Q : Value → Shared → Prop} (F : Fr h₀ L s.heap m) (X₀ : K.In h₀) (N : News h₀ L s.heap news) (hq : (q, methodObj (.ref g) self) ∈ news) (hf : fnIn K g = true)
    {a : Addr} {ws : List Value} (hev : ∀ Q : Value → Shared → Prop, Q (.ref a) s → wpAny (model prog w) A (eval e env) Q E s) (ht : s.heap.get? a = some { cls := .type "tuple", data := .seq ws.toArray }) (hz : ws.length ≤ 100)
    (h : ∀ h', Fr h₀ L h' m → News h₀ L h' news → codeAny (model prog w) A (.call (.ref g) ⟨self :: ws, []⟩) (fun r s' => match r with | .ok (.ret v) => Q v s' | .ok _ => False | .error e => E e s') { s with heap := h' })
    (he : starEach [.Starred e p] env = [(true, eval e env)]) : wpAny (model prog w) A (callWith pos (.ref q) [] (backTo pos (starEach [.Starred e p] env)) []) Q E s := by
  rw [he]
  refine ks_call (P := MethP K q g self) rfl (keeps_M hf) (ks_lone (hev _ ?_))
  have hT : s.TypeIs (.ref a) "tuple" := ⟨_, ht, rfl⟩
  unfold StarOf notIterableAtAll
  refine wpAny_bind (wpAny_specialOf hT PySem.F.slot_tuple_iter.lookup (wpAny_pure ⟨rfl, ?_⟩))
  refine wpAny_collect_seq a (.inr rfl) ht rfl rfl (fun h' hk => ?_) (by rw [List.size_toArray, sizeLine_eq]; omega)
  have F' : Fr h₀ L h' m := by
    obtain ⟨oL, es, ep, hL, r⟩ := F.ns
    exact ⟨⟨oL, es, ep, hk _ _ hL, r⟩, fun b x q => hk _ _ (F.keep b x q), F.above⟩
  have N' : News h₀ L h' news := fun p hp => ⟨hk _ _ (N p hp).1, (N p hp).2⟩
  refine ⟨methP N' hq (X₀.keeps F'.keep), ?_⟩
  refine call_meth N' hq ?_
  exact h h' F' N'
end
end Mine
end
section
open PySem PySem.W PyProof.Rows PySem.Calls PySem.Spec
set_option maxHeartbeats 2000000
namespace Mine
section
variable {prog : Program} {w : World} {A : Around} {s : Shared} {env : Env} {target iter : PySem.Expr} {it : Value} {body orelse : List Stmt} {Q : Flow → Shared → Prop}
noncomputable abbrev Nope : Value → Shared → Prop := fun _ _ => False
theorem passes_nope : PassesOwn (model prog w) A env Nope := fun _ _ z => z.elim
noncomputable def ForRest (prog : Program) (w : World) (A : Around) (env : Env) (target : PySem.Expr) (it : Value) (body orelse : List Stmt) (Q : Flow → Shared → Prop) (s : Shared) : Prop :=
  codeAny (model prog w) A (.forLoop target it body orelse env) (fun r s' => match r with | .ok f => Q f s' | .error e => cameBackBy (model prog w) A env Nope e s') s
noncomputable def ForPost (prog : Program) (w : World) (A : Around) (env : Env) (target : PySem.Expr) (it : Value) (body orelse : List Stmt) (Q : Flow → Shared → Prop) (f : Flow) (s : Shared) : Prop :=
  match f with
  | .next => ForRest prog w A env target it body orelse Q s
  | .cont => ForRest prog w A env target it body orelse Q s
  | .brk => Q .next s
  | .ret v => Q (.ret v) s
theorem for_open {pos : Pos} (h : wpAny (model prog w) A (eval iter env) (fun x s₁ => wpAny (model prog w) A (pyIter x) (fun it s₂ => ForRest prog w A env target it body orelse Q s₂) Nope s₁) Nope s)
    (hs : ∀ x, foldedSetIterable iter env x = pure x) : wpAny (model prog w) A (exec (.For target iter body orelse pos) env) Q Nope s := wpAny_For h hs
theorem for_turn (h : wpAny (model prog w) A (pyNext it) (fun r s₁ => match r with
      | none => wpAny (model prog w) A (execs orelse env) Q Nope s₁
      | some v => wpAny (model prog w) A (letOwnedTupleGo target it v) (fun _ s₂ => wpAny (model prog w) A (assign target env v) (fun _ s₃ => wpAny (model prog w) A (execs body env) (ForPost prog w A env target it body orelse Q) Nope s₃) Nope s₂) Nope s₁) Nope s) :
    ForRest prog w A env target it body orelse Q s := by
  refine codeAny_of_tree ?_
  show wpAny _ A ((forTurn target it body orelse env).onRaise (fun x => do noteFrame x env; theTreesLotGoes x)) _ _ s
  refine wpAny_noted ?_
  simp only [forTurn]
  refine wpAny_bind (wpAny_standAt (wpAny_bind (wpAny_onRaise (wpAny_mono h (fun r s₁ h₁ => ?_) fun _ _ h' => h'.elim))))
  cases r with
  | none => exact wpAny_pure ⟨rfl, codeAny_block (wpAny_mono h₁ (fun _ _ z => z) fun _ _ z => z.elim)⟩
  | some v =>
    refine wpAny_bind (wpAny_mono h₁ (fun _ s₂ h₂ => wpAny_bind (wpAny_mono h₂ (fun _ s₃ h₃ => wpAny_bind (wpAny_mono h₃ (fun f s₄ h₄ => ?_) fun _ _ h' => h'.elim)) fun _ _ h' => h'.elim)) fun _ _ h' => h'.elim)
    cases f with
    | next => exact wpAny_pure ⟨rfl, h₄⟩
    | cont => exact wpAny_pure ⟨rfl, h₄⟩
    | brk => exact wpAny_pure h₄
    | ret v => exact wpAny_pure h₄
end
section
variable {prog : Program} {w : World} {A : Around} {E : Value → Shared → Prop} {s : Shared} {g h' : Heap} {L I : Addr} {m : Str → Option Value} {news rest : List (Addr × Obj)} {o o' : Obj}
theorem chg_K (F : Fr g L s.heap m) (N : News g L s.heap news) (tk : Take [(I, o)] news rest) (hs : Heap.ExtBut I s.heap h') : Fr g L h' m ∧ News g L h' rest := by
  have z := N _ (tk.mem _ (.head _))
  obtain ⟨oL, es, ep, hL, r⟩ := F.ns
  exact ⟨⟨⟨oL, es, ep, hs _ _ (Ne.symm z.2.1) hL, r⟩, fun b x e => hs _ _ (fun q => by have := z.2.2; rw [← q, e] at this; cases this) (F.keep b x e), F.above⟩, fun p hp => by
    obtain ⟨a, b⟩ := tk.sub p hp
    exact ⟨hs _ _ (Ne.symm (b _ (.head _))) (N p a).1, (N p a).2⟩⟩
theorem chg_K1 (F : Fr g L s.heap m) (N : News g L s.heap news) (tk : Take [(I, o)] news rest) (hs : Heap.ExtBut I s.heap h') (ho : h'.get? I = some o') : Fr g L h' m ∧ News g L h' ((I, o') :: rest) := by
  obtain ⟨F', N'⟩ := chg_K F N tk hs
  refine ⟨F', fun p hp => ?_⟩
  rcases List.mem_cons.mp hp with rfl | hp
  · exact ⟨ho, (N _ (tk.mem _ (.head _))).2⟩
  · exact N' p hp
structure StrIt (o : Obj) (x : Str) (t : Tok) (i : Nat) : Prop where
  cls : o.cls = .type "str_ascii_iterator"
  data : o.data = .fields #[.str x t, .int i 0]
theorem iter_str {x : Str} {t : Tok} {Q : Value → Shared → Prop} (F : Fr g L s.heap m) (N : News g L s.heap news) (ha : x.cps.all (· < 128) = true)
    (h : ∀ I o h', StrIt o x t 0 → Fr g L h' m → News g L h' ((I, o) :: news) → (∀ p ∈ news, p.1 < I) → Q (.ref I) { s with heap := h' }) : wpAny (model prog w) A (pyIter (.str x t)) Q E s :=
  wpAny_pyIter_ascii ha (h _ _ _ ⟨rfl, rfl⟩ (F.push _) (N.push F _) fun p hp => Heap.lt_size (N p hp).1)
theorem next_str {x : Str} {t : Tok} {i c : Nat} {Q : Option Value → Shared → Prop} (F : Fr g L s.heap m) (N : News g L s.heap news) (tk : Take [(I, o)] news rest) (S : StrIt o x t i) (hx : x.cps[i]? = some c)
    (h : ∀ o' h', StrIt o' x t (i + 1) → Fr g L h' m → News g L h' ((I, o') :: rest) → Q (some (.str ⟨#[c]⟩ s.toks)) { s with heap := h', toks := s.toks + 1 }) : wpAny (model prog w) A (pyNext (.ref I)) Q E s := by
  refine wpAny_pyNext_ascii_item (x := x) (t := t) (i := i) ⟨o, (N _ (tk.mem _ (.head _))).1, S.cls, S.data⟩ hx fun h' hit hs => ?_
  obtain ⟨o', ho, hc, hd⟩ := hit
  obtain ⟨F', N'⟩ := chg_K1 F N tk hs.extBut ho
  exact h o' h' ⟨hc, hd⟩ F' N'
theorem end_str {x : Str} {t : Tok} {i : Nat} {Q : Option Value → Shared → Prop} (hh : A.handled = none) (F : Fr g L s.heap m) (N : News g L s.heap news) (tk : Take [(I, o)] news rest) (S : StrIt o x t i) (hx : x.cps[i]? = none)
    (h : ∀ h', Fr g L h' m → News g L h' rest → Q none { s with heap := h' }) : wpAny (model prog w) A (pyNext (.ref I)) Q E s :=
  wpAny_pyNext_ascii_end hh (x := x) (t := t) (i := i) ⟨o, (N _ (tk.mem _ (.head _))).1, S.cls, S.data⟩ hx fun h' hs => let ⟨F', N'⟩ := chg_K F N tk hs; h h' F' N'
noncomputable abbrev rangeObj (a b c : Int) (t u v : Tok) : Obj := { cls := .type "range", data := .fields #[.int a t, .int b u, .int c v] }
noncomputable abbrev rangeIt (x left step : Int) : Obj := { cls := .type "range_iterator", data := .fields #[rawInt x, rawInt left, rawInt step] }
theorem range3 {a b c : Int} {t u v : Tok} {Q : Value → Shared → Prop} (F : Fr g L s.heap m) (N : News g L s.heap news) (hc : c ≠ 0) (ha : -1000 ≤ b - a ∧ b - a ≤ 1000) (hc2 : -1000 ≤ c ∧ c ≤ 1000)
    (h : ∀ r h', Fr g L h' m → News g L h' ((r, rangeObj a b c t u v) :: news) → (∀ p ∈ news, p.1 < r) → Q (.ref r) { s with heap := h' }) : wpAny (model prog w) A (call (.type "range") [.int a t, .int b u, .int c v]) Q E s :=
  call_range_3 hc (h _ _ (F.push _) (N.push F _) fun p hp => Heap.lt_size (N p hp).1) (.inl (PyProof.noPylong_small (by omega)))
theorem iter_range {r : Addr} {a b c : Int} {t u v : Tok} {Q : Value → Shared → Prop} (F : Fr g L s.heap m) (N : News g L s.heap news) (hr : IsRange s.heap r a b c t u v) (hsm : Builtin.Range.small a b c = true)
    (h : ∀ I h', Fr g L h' m → News g L h' ((I, rangeIt a (Builtin.Range.rangeSize a b c) c) :: news) → (∀ p ∈ news, p.1 < I) → Q (.ref I) { s with heap := h' }) : wpAny (model prog w) A (pyIter (.ref r)) Q E s :=
  wpAny_pyIter_range hr hsm (h _ _ (F.push _) (N.push F _) fun p hp => Heap.lt_size (N p hp).1)
theorem next_range {x left step : Int} {Q : Option Value → Shared → Prop} (F : Fr g L s.heap m) (N : News g L s.heap news) (tk : Take [(I, rangeIt x left step)] news rest) (hl : 0 < left)
    (h : ∀ h', Fr g L h' m → News g L h' ((I, rangeIt (x + step) (left - 1) step) :: rest) → Q (some (.int x s.toks)) { s with heap := h', toks := s.toks + 1 }) : wpAny (model prog w) A (pyNext (.ref I)) Q E s :=
  wpAny_pyNext_range_item (N _ (tk.mem _ (.head _))).1 hl fun h' hit hs => let ⟨F', N'⟩ := chg_K1 F N tk hs.extBut hit; h h' F' N'
theorem end_range {x left step : Int} {Q : Option Value → Shared → Prop} (hh : A.handled = none) (F : Fr g L s.heap m) (N : News g L s.heap news) (tk : Take [(I, rangeIt x left step)] news rest) (hl : left ≤ 0)
    (h : ∀ h', Fr g L h' m → News g L h' rest → Q none { s with heap := h' }) : wpAny (model prog w) A (pyNext (.ref I)) Q E s :=
  wpAny_pyNext_range_end hh (N _ (tk.mem _ (.head _))).1 hl fun h' hs => let ⟨F', N'⟩ := chg_K F N tk hs; h h' F' N'
structure LstIt (o : Obj) (l : Addr) (i : Nat) : Prop where
  cls : o.cls = .type "list_iterator"
  data : o.data = .fields #[.ref l, .int i 0]
theorem iter_list {l : Addr} {its : Array Value} {Q : Value → Shared → Prop} (F : Fr g L s.heap m) (N : News g L s.heap news) (hl : s.heap.IsList l its)
    (h : ∀ I o h', LstIt o l 0 → Fr g L h' m → News g L h' ((I, o) :: news) → (∀ p ∈ news, p.1 < I) → (∀ b o, s.heap.get? b = some o → h'.get? b = some o) → Q (.ref I) { s with heap := h' }) : wpAny (model prog w) A (pyIter (.ref l)) Q E s :=
  wpAny_pyIter_list hl (h _ _ _ ⟨rfl, rfl⟩ (F.push _) (N.push F _) (fun p hp => Heap.lt_size (N p hp).1) fun b o e => Heap.get?_push_of_some _ e)
theorem next_list {l : Addr} {its : Array Value} {i : Nat} {v : Value} {Q : Option Value → Shared → Prop} (F : Fr g L s.heap m) (N : News g L s.heap news) (tk : Take [(I, o)] news rest) (S : LstIt o l i) (hl : s.heap.IsList l its) (hx : its[i]? = some v)
    (h : ∀ o' h', LstIt o' l (i + 1) → Fr g L h' m → News g L h' ((I, o') :: rest) → Heap.ExtBut I s.heap h' → Q (some v) { s with heap := h' }) : wpAny (model prog w) A (pyNext (.ref I)) Q E s := by
  refine wpAny_pyNext_list_item (l := l) (i := i) ⟨o, (N _ (tk.mem _ (.head _))).1, S.cls, S.data⟩ hl hx fun h' hit hs => ?_
  obtain ⟨o', ho, hc, hd⟩ := hit
  obtain ⟨F', N'⟩ := chg_K1 F N tk hs.extBut ho
  exact h o' h' ⟨hc, hd⟩ F' N' hs.extBut
theorem end_list {l : Addr} {its : Array Value} {i : Nat} {Q : Option Value → Shared → Prop} (hh : A.handled = none) (F : Fr g L s.heap m) (N : News g L s.heap news) (tk : Take [(I, o)] news rest) (S : LstIt o l i) (hl : s.heap.IsList l its) (hx : its[i]? = none)
    (h : ∀ h', Fr g L h' m → News g L h' rest → Heap.ExtBut I s.heap h' → Q none { s with heap := h' }) : wpAny (model prog w) A (pyNext (.ref I)) Q E s :=
  wpAny_pyNext_list_end (l := l) (i := i) hh ⟨o, (N _ (tk.mem _ (.head _))).1, S.cls, S.data⟩ hl hx fun h' hs => let ⟨F', N'⟩ := chg_K F N tk hs; h h' F' N' hs
theorem owned_list {elts : List PySem.Expr} {k : Nat} {pos : Pos} {l T : Addr} {i : Nat} {Q : Unit → Shared → Prop} (N : News g L s.heap news) (hm : (I, o) ∈ news) (S : LstIt o l i) (hQ : Q () s) : wpAny (model prog w) A (letOwnedTupleGo (.Tuple elts k pos) (.ref I) (.ref T)) Q E s :=
  wpAny_letOwnedTupleGo_listiter (l := l) (i := i) ⟨o, (N _ hm).1, S.cls, S.data⟩ hQ
end
end Mine
end
section
open PySem PySem.W PyProof.Rows PySem.Calls PySem.Spec
set_option maxHeartbeats 2000000
namespace Mine
theorem range_down (n : Nat) (h : n ≤ 1000) : Builtin.Range.rangeSize n 0 (-1) = n ∧ Builtin.Range.small n 0 (-1) = true := by
  have e : Builtin.Range.rangeSize n 0 (-1) = n := by
    unfold Builtin.Range.rangeSize
    simp
    try omega
  refine ⟨e, ?_⟩
  unfold Builtin.Range.small
  rw [e]
  simp only [Builtin.Range.rangeFitsLong]
  simp
  try omega
section
variable {prog : Program} {w : World} {A : Around} {E : Value → Shared → Prop} {s : Shared} {K : Frag} {x C L : Addr} {h₀ : Heap} {m : Str → Option Value} {ox : Obj} {news : List (Addr × Obj)}
theorem getitem_acc {its : Array Value} {n : Nat} {dx : Addr} {od : Option Obj} {sl : Array (Option Value)} {k : Int} {t : Tok} {v : Value} {Q : Value → Shared → Prop} (X : K.In s.heap) (I : InstAt s.heap x ⟨.ref C, some dx, .seq its n, sl⟩ C od) (hq : noSeq K C = true)
    (hf : findIn K (.ref C) "__getitem__" = some (some (.builtin "list.__getitem__"))) (hsub : subIn K (.ref C) (.type "list") = some true) (h0 : 0 ≤ k) (hfit : k < 2 ^ 63) (hx : its[k.toNat]? = some v) (h : Q v s) :
    wpAny (model prog w) A (getItem (.ref x) (.int k t)) Q E s := by
  unfold getItem
  refine wpAny_holding (wpAny_bind (seqKey_acc X I hq ?_))
  refine wpAny_bind (special_bi X I hf slot_list_getitem.bind (call_acc X I hsub (nm := "__getitem__") (by decide +kernel) (by first | exact .inl (by decide +kernel) | exact .inr (by decide +kernel)) (by decide +kernel) entry_list_getitem (args_list_getitem _ _) ?_))
  show wpAny _ _ (Builtin.List.listSubscript? (.int k t) >>= _) _ _ s
  refine wpAny_bind (wpAny_listSubscript_int (fitsIndex_of h0 hfit) ?_)
  clear hfit
  obtain ⟨j, rfl⟩ := Int.eq_ofNat_of_zero_le h0
  have hx' : its[j]? = some v := hx
  show wpAny _ _ ((seqItemAt x j >>= fun r => pure (r.map (j, ·))) >>= _) _ _ s
  refine wpAny_bind (wpAny_bind (wpAny_seqItemAt I.at_ rfl (wpAny_pure ?_)))
  rw [hx']
  first
    | exact wpAny_bind (wpAny_pure (wpAny_pure ⟨v, rfl, wpAny_pure h⟩))
    | exact wpAny_pure ⟨v, rfl, wpAny_pure h⟩
theorem subitem_K {value slice : PySem.Expr} {ops : List Value} {its : Array Value} {n : Nat} {dx : Addr} {od : Obj} {k : Int} {t : Tok} {v : Value} {Q : Value → Shared → Prop} (F : Fr h₀ L s.heap m) (X₀ : K.In h₀) (N : News h₀ L s.heap news)
    (hx : (x, (⟨.ref C, some dx, .seq its n, #[]⟩ : Obj)) ∈ news) (hd : (dx, od) ∈ news) (hq : noSeq K C = true) (hf : findIn K (.ref C) "__getitem__" = some (some (.builtin "list.__getitem__"))) (hsub : subIn K (.ref C) (.type "list") = some true)
    (h0 : 0 ≤ k) (hfit : k < 2 ^ 63) (hv : its[k.toNat]? = some v) (h : Q v s)
    (hs : subscripted slice false (.ref x) (.int k t) = operate ops (getItem (.ref x) (.int k t))) : wpAny (model prog w) A (subscriptTail value slice (.ref x) (.int k t)) Q E s :=
  tail_inst (X₀.keeps F.keep) (inst_acc N hx hd) hf (getitem_acc (X₀.keeps F.keep) (inst_acc N hx hd) hq hf hsub h0 hfit hv h) hs
theorem tail_str0 {E : Value → Shared → Prop} {value slice : PySem.Expr} {ops : List Value} {f : Str} {c : Nat} {t u : Tok} {Q : Value → Shared → Prop} (hc : f.cps[0]? = some c) (h : Q (.str ⟨#[c]⟩ s.toks) { s with toks := s.toks + 1 })
    (hs : subscripted slice false (.str f t) (.int 0 u) = operate ops (getItem (.str f t) (.int 0 u))) : wpAny (model prog w) A (subscriptTail value slice (.str f t) (.int 0 u)) Q E s := by
  refine tail_any (typeIs_str s f t) F.slot_str_getitem.lookup (P.getItem_str (by decide) ?_ h) hs
  have hl : 0 < f.length := by
    obtain ⟨hl, _⟩ := Array.getElem?_eq_some_iff.mp hc
    exact hl
  have : seqIndex? 0 f.length = some 0 := by
    unfold seqIndex?
    simp
    omega
  rw [this]
  exact hc
end
end Mine
end
section
open PySem PySem.W PyProof.Rows PySem.Calls PySem.Spec
set_option maxHeartbeats 2000000
namespace Mine
section
variable {prog : Program} {w : World} {A : Around} {E : Value → Shared → Prop} {s : Shared} {g h' : Heap} {L : Addr} {m : Str → Option Value} {news S S' rest : List (Addr × Obj)} {b₀ : Heap}
theorem join_lst {D : Addr} {its : Array Value} {c : Nat} {yl : List Str} {x : Str} {t : Tok} {Q : Value → Shared → Prop} (N : News g L s.heap news) (hm : (D, listOf its c) ∈ news) (hs : StrsAre its.toList yl) (hok : JoinOk x yl = true)
    (h : ∀ t' k, Q (.str (Txt.join x yl) t') { s with toks := k }) : wpAny (model prog w) A (call (.builtin "str.join") [.str x t, .ref D]) Q E s := by
  obtain ⟨l, e, ht⟩ := strsAre_values hs
  have e2 : its = (strValues l).toArray := by rw [← e]
  subst e2
  exact SC.join (N.isList hm) ht hok h
theorem strsAre_snoc {vs : List Value} {ys : List Str} (h : StrsAre vs ys) (y : Str) (t : Tok) : StrsAre (vs ++ [.str y t]) (ys ++ [y]) := by
  induction h with
  | nil => exact .cons y t .nil
  | cons z u _ ih => exact .cons z u ih
theorem strsAre_push {its : Array Value} {ys : List Str} (h : StrsAre its.toList ys) (y : Str) (t : Tok) : StrsAre (its.push (.str y t)).toList (ys ++ [y]) := by
  rw [Array.toList_push]; exact strsAre_snoc h y t
theorem after_sem {h : Heap} (F : Fr g L h m) (N : News g L h news) (hS : ∀ p ∈ S, p ∈ news) (hr : ∀ p ∈ rest, p ∈ news) (hd : ∀ p ∈ S, ∀ q ∈ rest, p.2 ≠ q.2) (k : Kp S h h') (O : Own b₀ h' S') (hS' : ∀ p ∈ S', (∃ o, (p.1, o) ∈ S) ∨ h.get? p.1 = none) :
    Fr g L h' m ∧ News g L h' (S' ++ rest) := by
  have NS : News g L h S := fun p hp => N p (hS p hp)
  obtain ⟨oL, es, ep, hL, r⟩ := F.ns
  have hL' := k L oL hL fun p hp => (NS p hp).2.1
  refine ⟨⟨⟨oL, es, ep, hL', r⟩, fun b o e => k b o (F.keep b o e) fun p hp q => ?_, F.above⟩, fun p hp => ?_⟩
  · have := (NS p hp).2.2; rw [q, e] at this; cases this
  · rcases List.mem_append.mp hp with hp | hp
    · refine ⟨(O.mem p hp).1, ?_⟩
      rcases hS' p hp with ⟨o, ho⟩ | hn
      · exact (NS _ ho).2
      · refine ⟨fun q => ?_, ?_⟩
        · rw [q, hL] at hn; cases hn
        · cases z : g.get? p.1 with
          | none => rfl
          | some o => rw [F.keep _ _ z] at hn; cases hn
    · refine ⟨k _ _ (N p (hr p hp)).1 fun q hq e => hd q hq p hp ?_, (N p (hr p hp)).2⟩
      have h1 := (NS q hq).1
      rw [e, (N p (hr p hp)).1] at h1
      exact (Option.some.inj h1).symm
end
end Mine
end
section
open PySem PySem.W PyProof.Rows PySem.Calls PySem.Spec
set_option maxHeartbeats 2000000
namespace Mine
section
variable {prog : Program} {w : World} {A : Around} {g : Heap} {L I : Addr} {env : Env} {target : PySem.Expr} {body orelse : List Stmt} {Q : Flow → Shared → Prop}
noncomputable def ForEnd (g : Heap) (L I : Addr) (l j : Nat) (Inv : Nat → (Str → Option Value) → List (Addr × Obj) → Prop) (s₀ s₁ : Shared) : Prop :=
  ∃ m' news' o' h' , ∃ (gs' : BG), ∃ tk', s₁ = ⟨h', gs'.1, s₀.drawn, tk', s₀.os⟩ ∧ Inv j m' news' ∧ Fr g L h' m' ∧ News g L h' ((I, o') :: news') ∧ LstIt o' l j ∧ ∀ p ∈ news', p.1 ≠ I
noncomputable def ForMid (g : Heap) (L I : Addr) (l j : Nat) (Inv : Nat → (Str → Option Value) → List (Addr × Obj) → Prop) (Q : Flow → Shared → Prop) (s₀ : Shared) (f : Flow) (s₁ : Shared) : Prop :=
  match f with
  | .next => ForEnd g L I l j Inv s₀ s₁
  | .cont => ForEnd g L I l j Inv s₀ s₁
  | .brk => Q .next s₁
  | .ret v => Q (.ret v) s₁
theorem for_list {l : Nat} {its : Array Value} (Inv : Nat → (Str → Option Value) → List (Addr × Obj) → Prop) (hh : A.handled = none) (hl : g.IsList l its)
    (turn : ∀ j m news o h (gs : BG) tk v (s₀ : Shared), its[j]? = some v → Inv j m news → Fr g L h m → News g L h ((I, o) :: news) → LstIt o l (j + 1) → (∀ p ∈ news, p.1 ≠ I) →
      wpAny (model prog w) A (letOwnedTupleGo target (.ref I) v) (fun _ s₂ => wpAny (model prog w) A (assign target env v) (fun _ s₃ => wpAny (model prog w) A (execs body env) (ForMid g L I l (j + 1) Inv Q s₀) Nope s₃) Nope s₂) Nope ⟨h, gs.1, s₀.drawn, tk, s₀.os⟩)
    (s₀ : Shared) (done : ∀ m news h (gs : BG) tk, Inv its.size m news → Fr g L h m → News g L h news → wpAny (model prog w) A (execs orelse env) Q Nope ⟨h, gs.1, s₀.drawn, tk, s₀.os⟩) :
    ∀ (k i : Nat) m news o h (gs : BG) tk, its.size - i = k → i ≤ its.size → Inv i m news → Fr g L h m → News g L h ((I, o) :: news) → LstIt o l i → (∀ p ∈ news, p.1 ≠ I) →
      ForRest prog w A env target (.ref I) body orelse Q ⟨h, gs.1, s₀.drawn, tk, s₀.os⟩ := by
  intro k
  induction k with
  | zero =>
    intro i m news o h gs tk hk hi J F N S hne
    have e : i = its.size := by omega
    subst e
    refine for_turn ?_
    refine end_list (s := ⟨h, gs.1, s₀.drawn, tk, s₀.os⟩) (o := o) (news := (I, o) :: news) (rest := news) hh F N (.cons (.head hne) .nil) S (hl.at fun o e => F.keep _ _ e) (by simp) fun h' F' N' _ => ?_
    exact done m news h' gs tk J F' N'
  | succ k ih =>
    intro i m news o h gs tk hk hi J F N S hne
    have hlt : i < its.size := by omega
    refine for_turn ?_
    refine next_list (s := ⟨h, gs.1, s₀.drawn, tk, s₀.os⟩) (o := o) (news := (I, o) :: news) (rest := news) F N (.cons (.head hne) .nil) S (hl.at fun o e => F.keep _ _ e) (v := its[i]) (by simp [hlt]) fun o' h' S' F' N' _ => ?_
    dsimp only
    refine wpAny_mono (turn i m news o' h' gs tk its[i] s₀ (by simp [hlt]) J F' N' S' hne) (fun _ s₂ z => wpAny_mono z (fun _ s₃ z => wpAny_mono z (fun f s₄ z => ?_) fun _ _ z => z) fun _ _ z => z) fun _ _ z => z
    have fin : ForEnd g L I l (i + 1) Inv s₀ s₄ → ForRest prog w A env target (.ref I) body orelse Q s₄ := by
      rintro ⟨m2, news2, o2, h2, gs2, tk2, rfl, J2, F2, N2, S2, hne2⟩
      exact ih (i + 1) m2 news2 o2 h2 gs2 tk2 (by omega) hlt J2 F2 N2 S2 hne2
    cases f with
    | next => exact fin z
    | cont => exact fin z
    | brk => exact z
    | ret v => exact z
theorem lst_ne {g h : Heap} {L I : Addr} {l j : Nat} {o : Obj} {news : List (Addr × Obj)} (N : News g L h ((I, o) :: news)) (S : LstIt o l j) (hd : ∀ p ∈ news, p.2.cls ≠ .type "list_iterator") : ∀ p ∈ news, p.1 ≠ I := fun p hp e => by
  have h1 := (N _ (.head _)).1
  have h2 := (N p (.tail _ hp)).1
  rw [e, h1] at h2
  exact hd p hp (by rw [← Option.some.inj h2]; exact S.cls)
end
end Mine
end
section
open PySem PySem.W PyProof.Rows PySem.Calls PySem.Spec
set_option maxHeartbeats 2000000
namespace Mine
theorem foldl_len (k : Nat) (l : List Str) (a : Nat) : l.foldl (fun (x1 : Nat) (x2 : Str) => x1 + x2.length + k) a = a + (l.map fun x => x.length + k).sum := by
  induction l generalizing a with
  | nil => rfl
  | cons x r ih => rw [List.foldl_cons, ih, List.map_cons, List.sum_cons]; omega
theorem joinOk_of (sep : Str) (l : List Str) (h : (l.map fun x => x.length + sep.length).sum ≤ sizeLine) : JoinOk sep l = true := by
  unfold JoinOk
  have e : l.toArray.foldl (fun (x1 : Nat) (x2 : Str) => x1 + x2.length + sep.length) 0 = (l.map fun x => x.length + sep.length).sum := by
    rw [List.foldl_toArray, foldl_len]; simp
  rw [e]
  simp only [Builtin.Str.tooLong, Bool.not_eq_true', decide_eq_false_iff_not]
  omega
theorem join_len (sep : Str) : ∀ l : List Str, l ≠ [] → (l.map fun x => x.length + sep.length).sum = (Str.join sep l).length + sep.length
  | [], h => absurd rfl h
  | [x], _ => by simp [Str.join]
  | x :: y :: r, _ => by
    have ih := join_len sep (y :: r) (by simp)
    rw [List.map_cons, List.sum_cons, ih]
    show _ = (x ++ sep ++ Str.join sep (y :: r)).length + _
    rw [Str.length_append, Str.length_append]
    omega
theorem sum_drop_le (k : Nat) (l : List Str) (n : Nat) : ((l.drop n).map fun x => x.length + k).sum ≤ (l.map fun x => x.length + k).sum := by
  induction l generalizing n with
  | nil => simp
  | cons x r ih =>
    cases n with
    | zero => simp
    | succ n => 
      have := ih n
      simp only [List.drop_succ_cons, List.map_cons, List.sum_cons]
      omega
theorem split_joinOk {x y : Str} (hy : y.length ≤ 10) (hx : x.length ≤ 100000) (n : Nat) : JoinOk y ((Txt.split x y).drop n) = true := by
  refine joinOk_of _ _ (Nat.le_trans (sum_drop_le _ _ _) ?_)
  by_cases h : Txt.split x y = []
  · rw [h]; simp
  · rw [join_len y _ h, StrLaws.join_split, sizeLine_eq]
    omega
end Mine
end
section
open PySem PySem.W PyProof.Rows PySem.Calls PySem.Spec
set_option maxHeartbeats 2000000
namespace Mine
theorem peek_alloc {α : Type} {K : Frag} {M : Model} {A : Around} {E : Value → Shared → Prop} {Q : α → Shared → Prop} {s : Shared} {o : Obj} {r : Addr → α} (X : K.In s.heap)
    (q : Q (r s.heap.objs.size) { s with heap := s.heap.push o }) : ∀ (t : Sem α) (g : Addr → Option α), peek1 K ⟨M.prog, M.w.params⟩ t = some (o, g) → (∀ D, g D = some (r D)) → wpAny M A t Q E s := by
  intro t
  induction t with
  | rule _ k ih => intro g e hg Γ p hΓ; exact ih () g e hg Γ p hΓ
  | point _ k ih => intro g e hg Γ p hΓ; exact ih () g e hg Γ p hΓ
  | ask k ih => intro g e hg Γ p hΓ; exact ih _ g e hg Γ p hΓ
  | load a _ k ih =>
    intro g e hg Γ p hΓ
    simp only [peek1] at e
    split at e
    · rename_i ob ho; exact ⟨ob, X _ _ ho, ih ob g e hg Γ p hΓ⟩
    · cases e
  | alloc ob k _ =>
    intro g e hg
    have e : some (ob, fun D => peek K ⟨M.prog, M.w.params⟩ (k D)) = some (o, g) := e
    obtain ⟨e1, e2⟩ := Prod.mk.inj (Option.some.inj e)
    subst e1
    subst e2
    have X' : K.In (s.heap.push ob) := X.keeps fun b x hb => Heap.get?_push_of_some _ hb
    show wpAny M A (alloc ob >>= k) Q E s
    refine wpAny_bind (wpAny_alloc ?_)
    exact (Looks.of_peek (M := M) (h := s.heap.push ob) X' (hg s.heap.objs.size)).here (s := { s with heap := s.heap.push ob }) q
  | _ => intro g e; cases e
section
variable {K : Frag} {p : Program} {loose : List Str} {mean : ExcName → Option Value} {mg mb : Str → Option Value} {prog : Program} {w : World} {A : Around} {s : Shared} {b₀ : Heap} {S : List (Addr × Obj)}
theorem enter_rest {R : Result → Shared → Prop} {name qual : Str} {params : Arguments} {body : List Stmt} {scope : Scope} {dV kV doc pm cdv ct oc : Value} {an od : Option Addr} {osl : Array (Option Value)} {f : Addr} {args : Args} {vs : List Value} {g₁ : Addr → Option (List (Str × Value))} {binds : Addr → List (Str × Value)}
    (O : Own b₀ s.heap S) (X₀ : K.In b₀) (T : Top p loose mean mg mb b₀)
    (ho : K.lookup f = some ⟨oc, od, .func (fnX name qual params body scope [] dV kV doc pm an cdv ct), osl⟩) (hcd : codeIn K cdv qual = true) (hroom : A.depth < recursionLimit)
    (hp : peek1 K ⟨prog, w.params⟩ (bindArgs (fnX name qual params body scope [] dV kV doc pm an cdv ct) args) = some (({ cls := .type "tuple", data := .seq vs.toArray } : Obj), g₁))
    (hg : ∀ D, g₁ D = some (binds D)) (hloc : ∀ D, ∀ y ∈ binds D, scope.names.lookup y.1 = some .local)
    (h : ∀ D g L h₁, (∀ b o, b₀.get? b = some o → g.get? b = some o) → Fr g L h₁ (fun y => (binds D).reverse.lookup y) → News g L h₁ ((D, ({ cls := .type "tuple", data := .seq vs.toArray } : Obj)) :: S) → K.In g → Top p loose mean mg mb g →
      (∀ b o, s.heap.get? b = some o → (∀ p ∈ S, p.1 ≠ b) → g.get? b = some o) → (∀ p ∈ S, p.1 < D) → D < L →
      wpAny (model prog w) (A.deeper (envX qual scope L f cdv [])) (execs body (envX qual scope L f cdv []))
        (fun fl s' => R (.ok (.ret (match fl with | .ret v => v | _ => .none))) s') (fun _ _ => False) { s with heap := h₁, toks := s.toks + (binds D).length })
    (hco : scope.isCoroutine = false) (hgen : scope.isGenerator = false) (hk : scope.kind = .function)
    (hcell : ∀ x ∈ scope.names, x.2 ≠ .cell) : codeAny (model prog w) A (.call (.ref f) args) R s := by
  have X1 : K.In s.heap := X₀.keeps O.keep
  refine codeAny_call_function (fd := fnX name qual params body scope [] dV kV doc pm an cdv ct) (body := body) hroom (X1 _ _ ho) rfl hco hgen rfl (codeRec_of X1 hcd) ?_
  refine peek_alloc (o := ({ cls := .type "tuple", data := .seq vs.toArray } : Obj)) X1 (r := binds) ?_ _ g₁ hp hg
  have O2 : Own b₀ (s.heap.push ({ cls := .type "tuple", data := .seq vs.toArray } : Obj)) ((s.heap.objs.size, ({ cls := .type "tuple", data := .seq vs.toArray } : Obj)) :: S) :=
    ⟨fun b o e => Heap.get?_push_of_some _ (O.keep b o e), fun p hp => by
      rcases List.mem_cons.mp hp with rfl | hp
      · refine ⟨Heap.get?_push_size _ rfl, ?_⟩
        cases q : b₀.get? s.heap.objs.size with
        | none => rfl
        | some o => exact absurd (Heap.lt_size (O.keep _ _ q)) (Nat.lt_irrefl _)
      · exact ⟨Heap.get?_push_of_some _ (O.mem p hp).1, (O.mem p hp).2⟩⟩
  generalize hH : s.heap.push ({ cls := .type "tuple", data := .seq vs.toArray } : Obj) = H at O2
  generalize hS : (s.heap.objs.size, ({ cls := .type "tuple", data := .seq vs.toArray } : Obj)) :: S = S2 at O2
  have nm : ∀ b o, b₀.get? b = some o → b ∉ S2.map (·.1) := fun b o e q => by
    obtain ⟨p, hp, rfl⟩ := List.mem_map.mp q
    rw [(O2.mem p hp).2] at e; cases e
  have st : ∀ b o, b₀.get? b = some o → (hideAll H (S2.map (·.1))).get? b = some o := fun b o e => hideAll_get _ (O2.keep b o e) (nm b o e)
  have hlim : H.NoLimit := T.nolimit.keeps O2.keep
  refine wpAny_newFunctionEnv hcell (hloc s.heap.objs.size) (fun h₁ hns hsb => ⟨hlim.fresh _ hsb, codeAny_func ?_⟩) hk
  have hk₁ : ∀ b o, H.get? b = some o → h₁.get? b = some o := fun b o e => hsb.extBut b o (Nat.ne_of_lt (Heap.lt_size e)) (Heap.get?_push_of_some _ e)
  refine wpAny_mono (h s.heap.objs.size (hideAll H (S2.map (·.1))) H.objs.size h₁ st ⟨hns, fun b o e => hk₁ b o (of_hideAll _ e), Nat.le_of_eq (hideAll_size _ _)⟩
    (fun p hp => ⟨hk₁ _ _ (O2.mem p (hS ▸ hp)).1, Nat.ne_of_lt (Heap.lt_size (O2.mem p (hS ▸ hp)).1), hideAll_none _ (List.mem_map_of_mem (hS ▸ hp))⟩) (X₀.keeps st) (T.keeps st)
    (fun b o e n => hideAll_get _ (hH ▸ Heap.get?_push_of_some _ e) (notin_map (hS ▸ fun p hp => by
      rcases List.mem_cons.mp hp with rfl | hp
      · exact fun q => by rw [← q] at e; exact absurd (Heap.lt_size e) (Nat.lt_irrefl _)
      · exact n p hp))) (fun p hp => Heap.lt_size (O.mem p hp).1) (by rw [← hH, Heap.size_push]; exact Nat.lt_succ_self _)) (fun _ _ z => z) fun _ _ z => z.elim
end
end Mine
end
section
open PySem PySem.W PyProof.Rows PySem.Calls PySem.Spec PyProof.Rows.LCg
set_option maxHeartbeats 2000000
namespace Mine
noncomputable def Kept (h h' : Heap) : Prop := ∀ b o, h.get? b = some o → h'.get? b = some o
theorem Kept.refl (h : Heap) : Kept h h := fun _ _ e => e
theorem Kept.trans {a b c : Heap} (x : Kept a b) (y : Kept b c) : Kept a c := fun _ _ e => y _ _ (x _ _ e)
theorem Kept.but {a b c : Heap} {I : Addr} (x : Kept a b) (hI : a.get? I = none) (y : Heap.ExtBut I b c) : Kept a c := fun d o e => y d o (fun q => by rw [q, hI] at e; cases e) (x d o e)
theorem ns_but {h h' : Heap} {C I : Addr} {m : Str → Option Value} (n : h.Ns C m) (hC : C ≠ I) (y : Heap.ExtBut I h h') : h'.Ns C m := n.at' fun o e => y C o hC e
section
variable {prog : Program} {w : World} {A : Around} {E : Value → Shared → Prop} {env cenv : Env} {elt target iter : PySem.Expr} {ifs : List PySem.Expr} {scope : Scope} {pos : Pos}
noncomputable def OwnAt (prog : Program) (w : World) (A : Around) (target : PySem.Expr) (v : Value) : Prop :=
  ∀ (I l : Addr) (i : Nat) (s : Shared) (Q : Unit → Shared → Prop) (E : Value → Shared → Prop), s.heap.IsListIter I l i → Q () s → wpAny (model prog w) A (letOwnedTupleGo target (.ref I) v) Q E s
noncomputable def StpAt (prog : Program) (w : World) (A : Around) (elt target : PySem.Expr) (ifs : List PySem.Expr) (cenv : Env) (h₁ : Heap) (v : Value) (s₁ : Shared) (ys : List Value) (K : List Value → Prop) : Prop :=
  ∀ (m : Str → Option Value) h (gs : BG) tk (E : Value → Shared → Prop), Kept h₁ h → h₁.get? cenv.locals = none → h.Ns cenv.locals m →
    wpAny (model prog w) A (assign target cenv v) (fun _ s₂ => wpAny (model prog w) A (forIn ifs true fun c r => if r = true then do let ok ← isTrue c cenv (eval c cenv); pure (ForInStep.yield ok) else pure (ForInStep.yield r))
      (fun ok s₃ => ∃ h₃, ∃ (gs₃ : BG), ∃ tk₃ m₃, s₃ = ⟨h₃, gs₃.1, s₁.drawn, tk₃, s₁.os⟩ ∧ Heap.ExtBut cenv.locals h h₃ ∧ h₃.Ns cenv.locals m₃ ∧ (if ok = true then wpAny (model prog w) A (eval elt cenv) (fun y s₄ => ∃ h₄, ∃ (gs₄ : BG), ∃ tk₄, s₄ = ⟨h₄, gs₄.1, s₁.drawn, tk₄, s₁.os⟩ ∧ Kept h₃ h₄ ∧ K (ys ++ [y])) E s₃ else K ys)) E s₂) E ⟨h, gs.1, s₁.drawn, tk, s₁.os⟩
theorem comp_loop {l I D : Addr} {its : Array Value} {R : Result → Shared → Prop} {s₁ : Shared} {h₁ : Heap} (Inv : Nat → List Value → Prop)
    (hh : A.handled = none) (hsz : its.size ≤ sizeLine) (hlen : ∀ j ys, Inv j ys → ys.length ≤ j) (hl : h₁.IsList l its)
    (hI : h₁.get? I = none) (hD : h₁.get? D = none) (hC : h₁.get? cenv.locals = none) (hIC : I ≠ cenv.locals) (hID : I ≠ D) (hCD : cenv.locals ≠ D)
    (own : ∀ (j : Nat) (v : Value), its[j]? = some v → OwnAt prog w A target v)
    (stp : ∀ (j : Nat) (v : Value) ys, its[j]? = some v → Inv j ys → StpAt prog w A elt target ifs cenv h₁ v s₁ ys (Inv (j + 1)))
    (fin : ∀ h (gs : BG) tk ys m, Inv its.size ys → Kept h₁ h → h.get? D = some (lst ys) → h.Ns cenv.locals m → R (.ok .next) ⟨h, gs.1, s₁.drawn, tk, s₁.os⟩)
    (h : Heap) (gs : BG) (tk : Nat) (m : Str → Option Value) (k0 : Kept h₁ h) (it0 : h.IsListIter I l 0) (d0 : h.get? D = some (lst [])) (n0 : h.Ns cenv.locals m) (i0 : Inv 0 []) :
    codeAny (model prog w) A (.compLoop (.ListComp elt [⟨target, iter, ifs, 0⟩] scope pos) 0 (.ref I) (.ref D) cenv) R ⟨h, gs.1, s₁.drawn, tk, s₁.os⟩ := by
  refine codeAny_loop rfl (fun n s' => ∃ h, ∃ (gs : BG), ∃ tk i ys m, s' = ⟨h, gs.1, s₁.drawn, tk, s₁.os⟩ ∧ i ≤ its.size ∧ n = its.size - i ∧ Inv i ys ∧ Kept h₁ h ∧ h.IsListIter I l i ∧ h.get? D = some (lst ys) ∧ h.Ns cenv.locals m) (fun n s' hJ => ?_) its.size
    ⟨h, gs, tk, 0, [], m, rfl, Nat.zero_le _, rfl, i0, k0, it0, d0, n0⟩
  obtain ⟨h, gs, tk, i, ys, m, rfl, hi, rfl, J, k, it, d, nn⟩ := hJ
  show wpAny _ A ((compTurn (.ListComp elt [⟨target, iter, ifs, 0⟩] scope pos) 0 (.ref I) (.ref D) cenv).onRaise (fun x => do noteFrame x cenv; theTreesLotGoes x)) _ _ _
  refine wpAny_noted ?_
  rw [compTurn_list]
  refine wpAny_bind (wpAny_standAt (wpAny_bind ?_))
  have hlh : h.IsList l its := hl.at fun o e => k _ _ e
  by_cases hlt : i < its.size
  · refine wpAny_pyNext_list_item (s := ⟨h, gs.1, s₁.drawn, tk, s₁.os⟩) (l := l) (i := i) (x := its[i]) it hlh (by simp [hlt]) fun h' hit hs => ?_
    dsimp only
    have hx : its[i]? = some its[i] := by simp [hlt]
    have k1 := k.but hI hs.extBut
    have d1 : h'.get? D = some (lst ys) := hs.extBut _ _ (Ne.symm hID) d
    have n1 := ns_but nn (Ne.symm hIC) hs.extBut
    refine wpAny_bind (own i _ hx I l (i + 1) _ _ _ hit (wpAny_bind (wpAny_mono (stp i _ ys hx J m h' gs tk _ k1 hC n1) (fun _ s2 h2 => wpAny_bind (wpAny_mono h2 (fun ok s3 h3 => ?_) fun _ _ e => e)) fun _ _ e => e)))
    obtain ⟨h3, gs3, tk3, m3, rfl, k3, n3, z⟩ := h3
    have kk := k1.but hC k3
    have d2 := k3 _ _ (Ne.symm hCD) d1
    have it3 : h3.IsListIter I l (i + 1) := let ⟨o, ho, r⟩ := hit; ⟨o, k3 _ _ hIC ho, r⟩
    cases ok with
    | false =>
      refine wpAny_pure ⟨rfl, its.size - (i + 1), by omega, h3, gs3, tk3, i + 1, ys, _, rfl, hlt, rfl, z, kk, it3, d2, n3⟩
    | true =>
      refine wpAny_bind (wpAny_bind (wpAny_mono z (fun y s4 h4 => ?_) fun _ _ e => e))
      obtain ⟨h4, gs4, tk4, rfl, k4, J4⟩ := h4
      have it4 : h4.IsListIter I l (i + 1) := let ⟨o, ho, r⟩ := it3; ⟨o, k4 _ _ ho, r⟩
      have n4 := n3.at' fun o e => k4 _ o e
      refine wpAny_bind (append_at (s := ⟨h4, gs4.1, s₁.drawn, tk4, s₁.os⟩) (hsz := by rw [List.size_toArray]; exact Nat.le_trans (hlen _ _ J) (Nat.le_trans hi hsz)) (k4 _ _ d2) fun h5 hs5 hD5 => ?_)
      have e5 := hs5.extBut
      refine wpAny_pure (wpAny_pure ⟨rfl, its.size - (i + 1), by omega, h5, gs4, tk4, i + 1, ys ++ [y], _, rfl, hlt, rfl, J4, (kk.trans k4).but hD e5, ?_, hD5.trans (congrArg some (lst_snoc ys y)), ns_but n4 hCD e5⟩)
      obtain ⟨o, ho, r⟩ := it4
      exact ⟨o, e5 _ _ hID ho, r⟩
  · have e : i = its.size := by omega
    subst e
    refine wpAny_pyNext_list_end (s := ⟨h, gs.1, s₁.drawn, tk, s₁.os⟩) (l := l) (i := its.size) hh it hlh (by simp) fun h' hs => ?_
    exact wpAny_pure (fin h' gs tk ys m J (k.but hI hs) (hs _ _ (Ne.symm hID) d) (ns_but nn (Ne.symm hIC) hs))
noncomputable def Comp1 (prog : Program) (w : World) (A : Around) (elt target : PySem.Expr) (ifs : List PySem.Expr) (scope : Scope) (env : Env) (Q : Value → Shared → Prop) (x : Value) (s₁ : Shared) : Prop :=
  ∃ (l : Addr) (its : Array Value) (Inv : Nat → List Value → Prop), x = .ref l ∧ AllBare s₁.gens ∧ s₁.heap.IsList l its ∧ its.size ≤ sizeLine ∧ (∀ j ys, Inv j ys → ys.length ≤ j) ∧
    (∀ (j : Nat) (v : Value), its[j]? = some v → OwnAt prog w A target v) ∧
    (∀ (C : Addr) (j : Nat) (v : Value) ys, its[j]? = some v → Inv j ys → StpAt prog w A elt target ifs (compEnvC scope [] C env) s₁.heap v s₁ ys (Inv (j + 1))) ∧ Inv 0 [] ∧
    ∀ D h (gs : BG) tk ys, Inv its.size ys → Kept s₁.heap h → s₁.heap.get? D = none → h.get? D = some (lst ys) → Q (.ref D) ⟨h, gs.1, s₁.drawn, tk, s₁.os⟩
theorem comp1 {s : Shared} {Q : Value → Shared → Prop} (hh : A.handled = none) (hclos : closureFor scope env = pure []) (hcell : ∀ y ∈ scope.names, y.2 ≠ .cell) (hkind : scope.kind = .function)
    (hnames : ∀ y ∈ scope.names, y.2 = .local → scope.names.lookup y.1 = some .local) (hs : ∀ x, foldedSetIterable iter env x = pure x)
    (h : wpAny (model prog w) A (eval iter env) (Comp1 prog w A elt target ifs scope env Q) E s) :
    wpAny (model prog w) A (eval (.ListComp elt [⟨target, iter, ifs, 0⟩] scope pos) env) Q E s := by
  rw [eval_ListComp]
  refine wpAny_comprehension_free (use := none) rfl hs hclos hkind hnames (wpAny_mono h (fun xv s₁ h₁ => ?_) fun _ _ e => e)
  obtain ⟨l, its, Inv, rfl, gb, hl, hsz, hlen, own, stp, i0, fin⟩ := h₁
  have fr : ∀ a, s₁.heap.objs.size ≤ a → s₁.heap.get? a = none := fun a ha => by
    cases e : s₁.heap.get? a with
    | none => rfl
    | some o' => exact absurd (Heap.lt_size e) (Nat.not_lt.mpr ha)
  refine wpAny_pyIter_list hl ?_
  have f1 : (s₁.heap.push ({ cls := .type "list_iterator", data := .fields #[.ref l, .int 0 0] } : Obj)).get? s₁.heap.objs.size = some _ := Heap.get?_push_size _ rfl
  have k1 : Kept s₁.heap (s₁.heap.push ({ cls := .type "list_iterator", data := .fields #[.ref l, .int 0 0] } : Obj)) := fun _ _ e => Heap.get?_push_of_some _ e
  have z1 : (s₁.heap.push ({ cls := .type "list_iterator", data := .fields #[.ref l, .int 0 0] } : Obj)).objs.size = s₁.heap.objs.size + 1 := Heap.size_push ..
  generalize (s₁.heap.push ({ cls := .type "list_iterator", data := .fields #[.ref l, .int 0 0] } : Obj)) = H1 at f1 k1 z1 ⊢
  refine wpAny_newObj_type (wpAny_newFunctionEnv hcell (by intro y hy; simp at hy) (fun h₁ hns₁ hsb₁ => ?_) hkind)
  dsimp only at hns₁ hsb₁ ⊢
  have f2 : (H1.push ({ cls := .type "list", dict := none, data := .seq ([] : List Value).toArray } : Obj)).get? H1.objs.size = some (lst []) := Heap.get?_push_size _ rfl
  have k2 : Kept H1 (H1.push ({ cls := .type "list", dict := none, data := .seq ([] : List Value).toArray } : Obj)) := fun _ _ e => Heap.get?_push_of_some _ e
  have z2 : (H1.push ({ cls := .type "list", dict := none, data := .seq ([] : List Value).toArray } : Obj)).objs.size = H1.objs.size + 1 := Heap.size_push ..
  generalize (H1.push ({ cls := .type "list", dict := none, data := .seq ([] : List Value).toArray } : Obj)) = H2 at f2 k2 z2 hns₁ hsb₁ ⊢
  have k3 : Kept H2 h₁ := fun b o e => hsb₁.extBut b o (Nat.ne_of_lt (Heap.lt_size e)) (Heap.get?_push_of_some _ e)
  have main : ∀ (s₃ : Shared), s₃ = ⟨h₁, s₁.gens, s₁.drawn, s₁.toks + ([] : List (Str × Value)).length, s₁.os⟩ →
      codeAny (model prog w) A (.compLoop (.ListComp elt [⟨target, iter, ifs, 0⟩] scope pos) 0 (.ref s₁.heap.objs.size) (.ref H1.objs.size) (compEnvC scope [] H2.objs.size env)) (compPost (model prog w) A E none Q (.ref H1.objs.size) H2.objs.size) s₃ := by
    rintro s₃ rfl
    refine comp_loop (s₁ := s₁) (h₁ := s₁.heap) Inv hh hsz hlen hl (fr _ (Nat.le_refl _)) (fr _ (by omega)) (fr _ (by show _ ≤ H2.objs.size; omega)) (show @Ne Nat s₁.heap.objs.size H2.objs.size by omega) (show @Ne Nat s₁.heap.objs.size H1.objs.size by omega) (show @Ne Nat H2.objs.size H1.objs.size by omega)
      own (stp _) ?_ h₁ ⟨_, gb⟩ _ _ ((k1.trans k2).trans k3) ⟨_, k3 _ _ (k2 _ _ f1), rfl, rfl⟩ (k3 _ _ f2) hns₁ i0
    intro h gs tk ys m J k d n
    have q1 : s₁.heap.objs.size ≤ H1.objs.size := by omega
    have q2 : s₁.heap.objs.size ≤ H2.objs.size := by omega
    have q3 : H1.objs.size ≠ H2.objs.size := by omega
    exact ⟨m, n, fun h' hs' => fin H1.objs.size h' gs tk ys J (k.but (fr _ q2) hs'.extBut) (fr _ q1) (hs'.extBut _ _ q3 d)⟩
  exact codeAny_compStart_list (main _ rfl) (wpAny_pyIter_listiter (s := ⟨h₁, s₁.gens, s₁.drawn, s₁.toks + ([] : List (Str × Value)).length, s₁.os⟩) (l := l) (i := 0) ⟨_, k3 _ _ (k2 _ _ f1), rfl, rfl⟩ (main _ rfl))
end
end Mine
end
section
open PySem PySem.W PyProof.Rows PySem.Calls PySem.Spec PyProof.Rows.LCg
set_option maxHeartbeats 2000000
namespace Mine
section
variable {prog : Program} {w : World} {A : Around} {g : Heap} {L I : Addr} {env : Env} {target : PySem.Expr} {body orelse : List Stmt} {Q : Flow → Shared → Prop}
theorem for_list2 {l : Nat} {its : Array Value} (Inv : Nat → (Str → Option Value) → List (Addr × Obj) → Prop) (hh : A.handled = none) (hl : ∀ j m news h, Inv j m news → Fr g L h m → News g L h news → h.IsList l its)
    (turn : ∀ j m news o h (gs : BG) tk v (s₀ : Shared), its[j]? = some v → Inv j m news → Fr g L h m → News g L h ((I, o) :: news) → LstIt o l (j + 1) → (∀ p ∈ news, p.1 ≠ I) →
      wpAny (model prog w) A (letOwnedTupleGo target (.ref I) v) (fun _ s₂ => wpAny (model prog w) A (assign target env v) (fun _ s₃ => wpAny (model prog w) A (execs body env) (ForMid g L I l (j + 1) Inv Q s₀) Nope s₃) Nope s₂) Nope ⟨h, gs.1, s₀.drawn, tk, s₀.os⟩)
    (s₀ : Shared) (done : ∀ m news h (gs : BG) tk, Inv its.size m news → Fr g L h m → News g L h news → wpAny (model prog w) A (execs orelse env) Q Nope ⟨h, gs.1, s₀.drawn, tk, s₀.os⟩) :
    ∀ (k i : Nat) m news o h (gs : BG) tk, its.size - i = k → i ≤ its.size → Inv i m news → Fr g L h m → News g L h ((I, o) :: news) → LstIt o l i → (∀ p ∈ news, p.1 ≠ I) →
      ForRest prog w A env target (.ref I) body orelse Q ⟨h, gs.1, s₀.drawn, tk, s₀.os⟩ := by
  intro k
  induction k with
  | zero =>
    intro i m news o h gs tk hk hi J F N S hne
    have e : i = its.size := by omega
    subst e
    refine for_turn ?_
    refine end_list (s := ⟨h, gs.1, s₀.drawn, tk, s₀.os⟩) (o := o) (news := (I, o) :: news) (rest := news) hh F N (.cons (.head hne) .nil) S (hl its.size m news h J F (news_sub N fun p hp => .tail _ hp)) (by simp) fun h' F' N' _ => ?_
    exact done m news h' gs tk J F' N'
  | succ k ih =>
    intro i m news o h gs tk hk hi J F N S hne
    have hlt : i < its.size := by omega
    refine for_turn ?_
    refine next_list (s := ⟨h, gs.1, s₀.drawn, tk, s₀.os⟩) (o := o) (news := (I, o) :: news) (rest := news) F N (.cons (.head hne) .nil) S (hl i m news h J F (news_sub N fun p hp => .tail _ hp)) (v := its[i]) (by simp [hlt]) fun o' h' S' F' N' _ => ?_
    dsimp only
    refine wpAny_mono (turn i m news o' h' gs tk its[i] s₀ (by simp [hlt]) J F' N' S' hne) (fun _ s₂ z => wpAny_mono z (fun _ s₃ z => wpAny_mono z (fun f s₄ z => ?_) fun _ _ z => z) fun _ _ z => z) fun _ _ z => z
    have fin : ForEnd g L I l (i + 1) Inv s₀ s₄ → ForRest prog w A env target (.ref I) body orelse Q s₄ := by
      rintro ⟨m2, news2, o2, h2, gs2, tk2, rfl, J2, F2, N2, S2, hne2⟩
      exact ih (i + 1) m2 news2 o2 h2 gs2 tk2 (by omega) hlt J2 F2 N2 S2 hne2
    cases f with
    | next => exact fin z
    | cont => exact fin z
    | brk => exact z
    | ret v => exact z
end
theorem kept_of {g h h' : Heap} {L : Addr} {m : Str → Option Value} (hid : ∀ b o, h.get? b = some o → (∀ p ∈ ([] : List (Addr × Obj)), p.1 ≠ b) → g.get? b = some o) (F : Fr g L h' m) : Kept h h' := fun b o e => F.keep b o (hid b o e fun _ q => absurd q List.not_mem_nil)
end Mine
end
section
open PySem PySem.W PyProof.Rows PySem.Calls PySem.Spec PyProof.Rows.LCg
set_option maxHeartbeats 2000000
namespace Mine
section
variable {prog : Program} {w : World} {A : Around} {E : Value → Shared → Prop} {env cenv : Env} {elt target target2 iter iter2 : PySem.Expr} {scope : Scope} {pos : Pos}
theorem compTurn_in (it acc : Value) :
    compTurn (.ListComp elt [⟨target, iter, [], 0⟩, ⟨target2, iter2, [], 0⟩] scope pos) 1 it acc env = (standAt iter2.pos >>= fun _ => pyNext it >>= fun r => match r with
      | none => pure (.done .next)
      | some v => letOwnedTupleGo target2 it v >>= fun _ => assign target2 env v >>= fun _ =>
        (eval elt env >>= fun x => call (.builtin "list.append") [acc, x] >>= fun _ => pure ()) >>= fun _ =>
          again (.compLoop (.ListComp elt [⟨target, iter, [], 0⟩, ⟨target2, iter2, [], 0⟩] scope pos) 1 it acc env)) := by rfl
theorem compTurn_out (it acc : Value) :
    compTurn (.ListComp elt [⟨target, iter, [], 0⟩, ⟨target2, iter2, [], 0⟩] scope pos) 0 it acc env = (standAt iter.pos >>= fun _ => pyNext it >>= fun r => match r with
      | none => pure (.done .next)
      | some v => letOwnedTupleGo target it v >>= fun _ => assign target env v >>= fun _ =>
        (eval iter2 env >>= fun x => standAt iter2.pos >>= fun _ => foldedSetIterable iter2 env x >>= fun x => holding [x] (pyIter x) >>= fun i2 => runOwn (.compStart (.ListComp elt [⟨target, iter, [], 0⟩, ⟨target2, iter2, [], 0⟩] scope pos) 1 i2 acc env) env >>= fun _ =>
          again (.compLoop (.ListComp elt [⟨target, iter, [], 0⟩, ⟨target2, iter2, [], 0⟩] scope pos) 0 it acc env))) := by
  rfl
end
end Mine
end
section
open PySem PySem.W PyProof.Rows PySem.Calls PySem.Spec PyProof.Rows.LCg
set_option maxHeartbeats 2000000
namespace Mine
noncomputable def Sq (o : Obj) : Prop := (∃ a n, o.data = .seq a n) ∧ (o.cls = .type "list" ∨ o.cls = .type "tuple")
noncomputable def KS (h h' : Heap) : Prop := ∀ b o, h.get? b = some o → Sq o → h'.get? b = some o
theorem KS.refl (h : Heap) : KS h h := fun _ _ e _ => e
theorem KS.trans {a b c : Heap} (x : KS a b) (y : KS b c) : KS a c := fun i o e q => y _ _ (x _ _ e q) q
theorem Kept.ks {a b : Heap} (x : Kept a b) : KS a b := fun i o e _ => x _ _ e
theorem ks_list {h h' : Heap} {l : Addr} {its : Array Value} (hl : h.IsList l its) (k : KS h h') : h'.IsList l its :=
  let ⟨o, ho, hc, n, hd⟩ := hl; ⟨o, k _ _ ho ⟨⟨_, _, hd⟩, .inl hc⟩, hc, n, hd⟩
theorem ks_tf {h h' : Heap} {its : Array Value} {ps : List (Str × Str)} (hT : TF h its ps) (k : KS h h') : TF h' its ps :=
  ⟨hT.1, fun j hj => let ⟨tp, t, t', a, b⟩ := hT.2 j hj; ⟨tp, t, t', a, k _ _ b ⟨⟨_, _, rfl⟩, .inr rfl⟩⟩⟩
theorem ks_store {h h' : Heap} {L : Addr} {m : Str → Option Value} (n : h.Ns L m) (y : Heap.ExtBut L h h') : KS h h' := fun b o e q => y b o (fun hb => by
  obtain ⟨⟨a, k, hd⟩, _⟩ := q
  obtain ⟨o', es, ep, ho, hd', _⟩ := n
  rw [hb, ho] at e
  cases e
  rw [hd] at hd'
  cases hd') e
theorem ks_iter {h h' : Heap} {I : Addr} {o : Obj} {l j : Nat} (ho : h.get? I = some o) (S : LstIt o l j) (y : Heap.ExtBut I h h') : KS h h' := fun b o' e q => y b o' (fun hb => by
  obtain ⟨_, hc⟩ := q
  rw [hb, ho] at e
  cases e
  rw [S.cls] at hc
  rcases hc with hc | hc <;> exact absurd hc (by decide)) e
noncomputable def RF (h : Heap) (its : Array Value) (rows : List (List (Str × Str))) : Prop :=
  its.size = rows.length ∧ ∀ j (hj : j < rows.length), ∃ r ris, its[j]? = some (.ref r) ∧ h.IsList r ris ∧ TF h ris rows[j]
theorem ks_rf {h h' : Heap} {its : Array Value} {rows : List (List (Str × Str))} (hT : RF h its rows) (k : KS h h') : RF h' its rows :=
  ⟨hT.1, fun j hj => let ⟨r, ris, a, b, c⟩ := hT.2 j hj; ⟨r, ris, a, ks_list b k, ks_tf c k⟩⟩
theorem RF.append {h : Heap} {its its2 : Array Value} {rows rows2 : List (List (Str × Str))} (hT : RF h its rows) (hT2 : RF h its2 rows2) : RF h (its ++ its2) (rows ++ rows2) := by
  refine ⟨by rw [Array.size_append, hT.1, hT2.1, List.length_append], fun j hj => ?_⟩
  by_cases hl : j < rows.length
  · obtain ⟨r, ris, a, b, c⟩ := hT.2 j hl
    exact ⟨r, ris, by rw [Array.getElem?_append_left (by rw [hT.1]; exact hl)]; exact a, b, by rw [List.getElem_append_left hl]; exact c⟩
  · rw [List.length_append] at hj
    obtain ⟨r, ris, a, b, c⟩ := hT2.2 (j - rows.length) (by omega)
    exact ⟨r, ris, by rw [Array.getElem?_append_right (by rw [hT.1]; omega), hT.1]; exact a, b, by rw [List.getElem_append_right (by omega)]; exact c⟩
theorem TF.append {h : Heap} {its its2 : Array Value} {ps ps2 : List (Str × Str)} (hT : TF h its ps) (hT2 : TF h its2 ps2) : TF h (its ++ its2) (ps ++ ps2) := by
  refine ⟨by rw [Array.size_append, hT.1, hT2.1, List.length_append], fun j hj => ?_⟩
  by_cases hl : j < ps.length
  · obtain ⟨r, t, t', a, b⟩ := hT.2 j hl
    exact ⟨r, t, t', by rw [Array.getElem?_append_left (by rw [hT.1]; exact hl)]; exact a, by rw [List.getElem_append_left hl]; exact b⟩
  · rw [List.length_append] at hj
    obtain ⟨r, t, t', a, b⟩ := hT2.2 (j - ps.length) (by omega)
    exact ⟨r, t, t', by rw [Array.getElem?_append_right (by rw [hT.1]; omega), hT.1]; exact a, by rw [List.getElem_append_right (by omega)]; exact b⟩
theorem RF.one {h : Heap} {r : Addr} {ris : Array Value} {ps : List (Str × Str)} (hl : h.IsList r ris) (hT : TF h ris ps) : RF h #[.ref r] [ps] :=
  ⟨rfl, fun j hj => by
    have : j = 0 := by simpa using hj
    subst this
    exact ⟨r, ris, rfl, hl, hT⟩⟩
theorem RF.take {h : Heap} {its : Array Value} {rows : List (List (Str × Str))} (hT : RF h its rows) (n : Nat) : RF h (its.toList.take n).toArray (rows.take n) := by
  have hs := hT.1
  refine ⟨by simp [hs], fun j hj => ?_⟩
  simp only [List.length_take] at hj
  obtain ⟨r, ris, a, b, c⟩ := hT.2 j (by omega)
  refine ⟨r, ris, ?_, b, by rw [List.getElem_take]; exact c⟩
  rw [List.getElem?_toArray, List.getElem?_take_of_lt (by omega), Array.getElem?_toList]; exact a
theorem RF.drop {h : Heap} {its : Array Value} {rows : List (List (Str × Str))} (hT : RF h its rows) (n : Nat) : RF h (its.toList.drop n).toArray (rows.drop n) := by
  have hs := hT.1
  refine ⟨by simp [hs], fun j hj => ?_⟩
  simp only [List.length_drop] at hj
  obtain ⟨r, ris, a, b, c⟩ := hT.2 (n + j) (by omega)
  refine ⟨r, ris, ?_, b, by rw [List.getElem_drop]; exact c⟩
  rw [List.getElem?_toArray, List.getElem?_drop, Array.getElem?_toList]; exact a
theorem RF.last {h : Heap} {its : Array Value} {rows : List (List (Str × Str))} {last : List (Str × Str)} (hT : RF h its (rows ++ [last])) :
    its.size = rows.length + 1 ∧ ∃ r ris, its[rows.length]? = some (.ref r) ∧ h.IsList r ris ∧ TF h ris last := by
  refine ⟨by rw [hT.1]; simp, ?_⟩
  obtain ⟨r, ris, a, b, c⟩ := hT.2 rows.length (by simp)
  exact ⟨r, ris, a, b, by simpa using c⟩
section
variable {prog : Program} {w : World} {A : Around} {E : Value → Shared → Prop} {s : Shared} {env : Env}
theorem push_kept (h : Heap) (o : Obj) : Kept h (h.push o) := fun _ _ e => Heap.get?_push_of_some _ e
theorem x_newlist {vs : List Value} {Q : Value → Shared → Prop} (hsz : vs.length ≤ sizeLine) (h : ∀ D h', Kept s.heap h' → h'.IsList D vs.toArray → Q (.ref D) { s with heap := h' }) : wpAny (model prog w) A (newList vs) Q E s :=
  wpAny_newObj_type (h _ _ (push_kept _ _) ⟨_, Heap.get?_push_size _ rfl, rfl, _, rfl⟩) (by show vs.toArray.size ≤ sizeLine; rw [List.size_toArray]; exact hsz)
theorem x_add {l b : Addr} {its its2 : Array Value} {Q : Value → Shared → Prop} (hl : s.heap.IsList l its) (hb : s.heap.IsList b its2) (hsz : its.size + its2.size ≤ sizeLine)
    (h : ∀ D h', Kept s.heap h' → h'.IsList D (its ++ its2) → Q (.ref D) { s with heap := h' }) : wpAny (model prog w) A (binaryOp .Add (.ref l) (.ref b)) Q E s := by
  obtain ⟨⟨cls, dd, data, sl⟩, ho, hc, n, hd⟩ := id hl
  obtain ⟨⟨cls2, dd2, data2, sl2⟩, ho2, hc2, n2, hd2⟩ := id hb
  simp only at hc hd hc2 hd2
  subst hc hd hc2 hd2
  refine concat_meets ⟨_, ho, rfl⟩ ⟨_, ho2, rfl⟩ noFill_list_add seq_list_add PySem.F.slot_list_add PySem.F.entry_list_add (PySem.F.args_list_add_2 _ _) (list_addW l b its its2 n n2 dd dd2 sl sl2 hsz) ⟨ho, ho2, ?_⟩
  exact h _ _ (push_kept _ _) ⟨_, Heap.get?_push_size _ rfl, rfl, _, rfl⟩
theorem x_slice {value : PySem.Expr} {lower upper : Option PySem.Expr} {p pos : Pos} {Q : Value → Shared → Prop}
    (h : wpAny (model prog w) A (eval value env) (fun o s₁ => wpAny (model prog w) A (evalPart lower env) (fun vl s₂ => wpAny (model prog w) A (evalPart upper env) (fun vu s₃ =>
      ∃ l items lo hi, o = .ref l ∧ s₃.heap.IsList l items ∧ items.size ≤ sizeLine ∧ IsPart vl lo ∧ IsPart vu hi ∧
        ∀ D h', Kept s₃.heap h' → h'.IsList D (slicePick items lo hi none) → Q (.ref D) { s₃ with heap := h' }) E s₂) E s₁) E s)
    (ht : ∀ o r, letTemporaryGo value o r = pure () := by intro _ _; rfl) :
    wpAny (model prog w) A (eval (.Subscript value (.Slice lower upper none p) pos) env) Q E s := by
  refine wpAny_Subscript_list_slice (wpAny_mono h (fun o s₁ h₁ => wpAny_mono h₁ (fun vl s₂ h₂ => wpAny_mono h₂ (fun vu s₃ h₃ => ?_) fun _ _ e => e) fun _ _ e => e) fun _ _ e => e) ht
  obtain ⟨l, items, lo, hi, a, b, c, d, e, f⟩ := h₃
  refine ⟨l, items, lo, hi, a, b, c, d, e, f _ _ ((push_kept _ _).trans (push_kept _ _)) ⟨({ cls := .type "list", data := .seq (slicePick items lo hi none) } : Obj), ?_, rfl, _, rfl⟩⟩
  rw [show s₃.heap.objs.size + 1 = (s₃.heap.push ({ cls := .type "slice", data := .fields #[vl, vu, .none] } : Obj)).objs.size from (Heap.size_push ..).symm]
  exact Heap.get?_push_size _ rfl
theorem x_last {value : PySem.Expr} {p pos p2 : Pos} {Q : Value → Shared → Prop}
    (h : wpAny (model prog w) A (eval value env) (fun o s₁ => ∃ l its x, o = .ref l ∧ s₁.heap.IsList l its ∧ 0 < its.size ∧ its[its.size - 1]? = some x ∧ ∀ tk, Q x { s₁ with toks := tk }) E s)
    (hs : ∀ l k u, subscripted (.UnaryOp .USub (.Constant (.int 1) 0 p) p2) false (.ref l) (.int k u) = operate [.ref l, .int k u] (getItem (.ref l) (.int k u)) := by intro _ _ _; with_unfolding_all rfl)
    (hg : ∀ l r, letTemporaryGo value (.ref l) r = pure () := by intro _ _; with_unfolding_all rfl) :
    wpAny (model prog w) A (eval (.Subscript value (.UnaryOp .USub (.Constant (.int 1) 0 p) p2) pos) env) Q E s := by
  refine Subscript_ (wpAny_mono h (fun o s₁ h₁ => ?_) fun _ _ e => e)
  obtain ⟨l, its, x, rfl, hl, h0, hx, hQ⟩ := h₁
  refine wpAny_UnaryOp (wpAny_Constant_int (P.neg_int ?_))
  refine subscriptTail_builtin hl.typeIs slot_list_getitem.lookup (wpAny_getItem_list_neg hl (by decide) (by omega) (by decide) (x := x) ?_ (hQ _)) (hs _ _ _) (hg _)
  rw [show (-1 + (its.size : Int)).toNat = its.size - 1 by omega]; exact hx
theorem x_call {f : Str} {a : Addr} {o : Obj} {fd : FuncData} {e : PySem.Expr} {rest : List PySem.Expr} {p pos : Pos} {mg : Str → Option Value} {Q : Value → Shared → Prop} (hg : s.heap.Ns env.globals mg) (hv : mg f = some (.ref a)) (hdat : o.data = .func fd)
    (h : wpAny (model prog w) A (spliced (backTo pos (starEach (e :: rest) env))) (fun vs s₁ => s₁.heap.get? a = some o ∧ wpAny (model prog w) A (call (.ref a) vs) Q E s₁) E s)
    (hk : env.scope.kind = .function := by rfl) (hx : env.kindOf f = some .globalImplicit := by rfl) (hd : (f == ("__debug__" : Str)) = false := by decide) (he : starEach (e :: rest) env = (false, eval e env) :: starEach rest env := by rfl) :
    wpAny (model prog w) A (eval (.Call (.Name f p) (e :: rest) [] pos) env) Q E s :=
  Call_Name rfl (Name_function_global hk hx (loadGlobal_global hg hv (callWith_def hdat h he)) hd)
theorem x_callb {f : Str} {id : String} {e : PySem.Expr} {rest : List PySem.Expr} {p pos : Pos} {mg mb : Str → Option Value} {Q : Value → Shared → Prop} (hg : s.heap.Ns env.globals mg) (hn : mg f = none) (hb : s.heap.Ns env.builtins mb) (hv : mb f = some (.builtin id))
    (h : wpAny (model prog w) A (spliced (backTo pos (starEach (e :: rest) env))) (fun vs s₁ => wpAny (model prog w) A (call (.builtin id) vs) Q E s₁) E s)
    (hk : env.scope.kind = .function := by rfl) (hx : env.kindOf f = some .globalImplicit := by rfl) (hd : (f == ("__debug__" : Str)) = false := by decide) (he : starEach (e :: rest) env = (false, eval e env) :: starEach rest env := by rfl)
    (hplain : (backTo pos (starEach rest env)).any (·.1) = false := by rfl) :
    wpAny (model prog w) A (eval (.Call (.Name f p) (e :: rest) [] pos) env) Q E s :=
  Call_Name rfl (Name_function_global hk hx (loadGlobal_builtin hg hn hb hv (PyProof.Rows.callWith_builtin1 h he hplain)) hd)
end
section
variable {prog : Program} {w : World} {A : Around} {g : Heap} {L I : Addr} {env : Env} {target : PySem.Expr} {body orelse : List Stmt} {Q : Flow → Shared → Prop}
noncomputable def SemEnd (g : Heap) (L I : Addr) (l j : Nat) (Inv : Nat → (Str → Option Value) → List (Addr × Obj) → Heap → Prop) (s₀ s₁ : Shared) : Prop :=
  ∃ m' news' o' h' , ∃ (gs' : BG), ∃ tk', s₁ = ⟨h', gs'.1, s₀.drawn, tk', s₀.os⟩ ∧ Inv j m' news' h' ∧ Fr g L h' m' ∧ News g L h' ((I, o') :: news') ∧ LstIt o' l j ∧ ∀ p ∈ news', p.1 ≠ I
noncomputable def SemMid (g : Heap) (L I : Addr) (l j : Nat) (Inv : Nat → (Str → Option Value) → List (Addr × Obj) → Heap → Prop) (Q : Flow → Shared → Prop) (s₀ : Shared) (f : Flow) (s₁ : Shared) : Prop :=
  match f with
  | .next => SemEnd g L I l j Inv s₀ s₁
  | .cont => SemEnd g L I l j Inv s₀ s₁
  | .brk => Q .next s₁
  | .ret v => Q (.ret v) s₁
theorem for_sem {l : Nat} {its : Array Value} (Inv : Nat → (Str → Option Value) → List (Addr × Obj) → Heap → Prop) (hst : ∀ j m news h h', KS h h' → Inv j m news h → Inv j m news h') (hh : A.handled = none)
    (hl : ∀ j m news h, Inv j m news h → Fr g L h m → News g L h news → h.IsList l its)
    (turn : ∀ j m news o h (gs : BG) tk v (s₀ : Shared), its[j]? = some v → Inv j m news h → Fr g L h m → News g L h ((I, o) :: news) → LstIt o l (j + 1) → (∀ p ∈ news, p.1 ≠ I) →
      wpAny (model prog w) A (letOwnedTupleGo target (.ref I) v) (fun _ s₂ => wpAny (model prog w) A (assign target env v) (fun _ s₃ => wpAny (model prog w) A (execs body env) (SemMid g L I l (j + 1) Inv Q s₀) Nope s₃) Nope s₂) Nope ⟨h, gs.1, s₀.drawn, tk, s₀.os⟩)
    (s₀ : Shared) (done : ∀ m news h (gs : BG) tk, Inv its.size m news h → Fr g L h m → News g L h news → wpAny (model prog w) A (execs orelse env) Q Nope ⟨h, gs.1, s₀.drawn, tk, s₀.os⟩) :
    ∀ (k i : Nat) m news o h (gs : BG) tk, its.size - i = k → i ≤ its.size → Inv i m news h → Fr g L h m → News g L h ((I, o) :: news) → LstIt o l i → (∀ p ∈ news, p.1 ≠ I) →
      ForRest prog w A env target (.ref I) body orelse Q ⟨h, gs.1, s₀.drawn, tk, s₀.os⟩ := by
  intro k
  induction k with
  | zero =>
    intro i m news o h gs tk hk hi J F N S hne
    have e : i = its.size := by omega
    subst e
    refine for_turn ?_
    refine end_list (s := ⟨h, gs.1, s₀.drawn, tk, s₀.os⟩) (o := o) (news := (I, o) :: news) (rest := news) hh F N (.cons (.head hne) .nil) S (hl its.size m news h J F (news_sub N fun p hp => .tail _ hp)) (by simp) fun h' F' N' y => ?_
    exact done m news h' gs tk (hst _ _ _ _ _ (ks_iter (N _ (.head _)).1 S y) J) F' N'
  | succ k ih =>
    intro i m news o h gs tk hk hi J F N S hne
    have hlt : i < its.size := by omega
    refine for_turn ?_
    refine next_list (s := ⟨h, gs.1, s₀.drawn, tk, s₀.os⟩) (o := o) (news := (I, o) :: news) (rest := news) F N (.cons (.head hne) .nil) S (hl i m news h J F (news_sub N fun p hp => .tail _ hp)) (v := its[i]) (by simp [hlt]) fun o' h' S' F' N' y => ?_
    dsimp only
    have J' := hst _ _ _ _ _ (ks_iter (N _ (.head _)).1 S y) J
    refine wpAny_mono (turn i m news o' h' gs tk its[i] s₀ (by simp [hlt]) J' F' N' S' hne) (fun _ s₂ z => wpAny_mono z (fun _ s₃ z => wpAny_mono z (fun f s₄ z => ?_) fun _ _ z => z) fun _ _ z => z) fun _ _ z => z
    have fin : SemEnd g L I l (i + 1) Inv s₀ s₄ → ForRest prog w A env target (.ref I) body orelse Q s₄ := by
      rintro ⟨m2, news2, o2, h2, gs2, tk2, rfl, J2, F2, N2, S2, hne2⟩
      exact ih (i + 1) m2 news2 o2 h2 gs2 tk2 (by omega) hlt J2 F2 N2 S2 hne2
    cases f with
    | next => exact fin z
    | cont => exact fin z
    | brk => exact z
    | ret v => exact z
end
end Mine
end
section
open PySem PySem.W PyProof.Rows PySem.Calls PySem.Spec PyProof.Rows.LCg
set_option maxHeartbeats 2000000
namespace Mine
noncomputable def IsDef (h : Heap) (a : Addr) : Prop := ∃ o fd, h.get? a = some o ∧ o.data = .func fd
structure GL (mg mb : Str → Option Value) (b₀ : Heap) : Prop where
  ns : b₀.Ns mainGlobals mg
  nb : b₀.Ns builtinsNs mb
  text : mg (Str.ofString "_law_text") = some (.ref 215)
  cram : mg (Str.ofString "cram") = some (.ref 42)
  repl : mg (Str.ofString "replace") = some (.ref 35)
  doc : mg (Str.ofString "splitdoc") = some (.ref 28)
  page : mg (Str.ofString "_law_page") = some (.ref 222)
  rows : mg (Str.ofString "_law_rows") = some (.ref 229)
  words : mg (Str.ofString "_law_words") = some (.ref 210)
  peel : mg (Str.ofString "_law_peeled") = some (.ref 234)
  len0 : mg (Str.ofString "len") = none
  range0 : mg (Str.ofString "range") = none
  sum0 : mg (Str.ofString "sum") = none
  len : mb (Str.ofString "len") = some (.builtin "len")
  range : mb (Str.ofString "range") = some (.type "range")
  sum : mb (Str.ofString "sum") = some (.builtin "sum")
  dtext : IsDef b₀ 215
  dcram : IsDef b₀ 42
  drepl : IsDef b₀ 35
  ddoc : IsDef b₀ 28
  dpage : IsDef b₀ 222
  drows : IsDef b₀ 229
  dwords : IsDef b₀ 210
  dpeel : IsDef b₀ 234
theorem GL.of {w : World} {mean : ExcName → Option Value} {mg mb : Str → Option Value} {b₀ : Heap} (G : GW w mean mg mb b₀) : GL mg mb b₀ := by
  have T := G.T
  suffices key : Challenge.rw_ph0143_01.name = Challenge.rw_ph0143_01.name → (hd.heap_1 w.params).In b₀ → GL mg mb b₀ from key rfl G.X
  k_fill
  intro _ X
  refine ⟨T.g, T.b, mg_of X T.g (by k_is), mg_of X T.g (by k_is), mg_of X T.g (by k_is), mg_of X T.g (by k_is), mg_of X T.g (by k_is), mg_of X T.g (by k_is), mg_of X T.g (by k_is), mg_of X T.g (by k_is),
    mg_none_of X T.g (by k_is), mg_none_of X T.g (by k_is), mg_none_of X T.g (by k_is), (T.builtins _ (by decide)).trans (by boot_fast), (T.builtins _ (by decide)).trans (by boot_fast), (T.builtins _ (by decide)).trans (by boot_fast),
    ⟨_, _, X 215 _ (by k_is), rfl⟩, ⟨_, _, X 42 _ (by k_is), rfl⟩, ⟨_, _, X 35 _ (by k_is), rfl⟩, ⟨_, _, X 28 _ (by k_is), rfl⟩, ⟨_, _, X 222 _ (by k_is), rfl⟩, ⟨_, _, X 229 _ (by k_is), rfl⟩, ⟨_, _, X 210 _ (by k_is), rfl⟩, ⟨_, _, X 234 _ (by k_is), rfl⟩⟩
end Mine
end
section
open PySem PySem.W PyProof.Rows PySem.Calls PySem.Spec PyProof.Rows.LCg
set_option maxHeartbeats 2000000
namespace Mine
section
variable {prog : Program} {w : World} {A : Around} {E : Value → Shared → Prop} {s : Shared} {env : Env}
theorem x_newtuple {vs : List Value} {Q : Value → Shared → Prop} (hsz : vs.length ≤ sizeLine) (h : ∀ D h', Kept s.heap h' → h'.get? D = some ({ cls := .type "tuple", data := .seq vs.toArray } : Obj) → Q (.ref D) { s with heap := h' }) : wpAny (model prog w) A (newTuple vs) Q E s :=
  wpAny_newObj_type (h _ _ (push_kept _ _) (Heap.get?_push_size _ rfl)) (by show vs.toArray.size ≤ sizeLine; rw [List.size_toArray]; exact hsz)
theorem x_pair {a b : Str} {pa pb tp vp pos : Pos} {kt kv : Nat} {e1 e2 : PySem.Expr} {Q : Flow → Shared → Prop} (hh : A.handled = none)
    (h : wpAny (model prog w) A (eval e1 env) (fun x s₁ => wpAny (model prog w) A (eval e2 env) (fun y s₂ => ∃ m, s₂.heap.Ns env.locals m ∧ ∀ h' tk, h'.Ns env.locals (fun z => if z = a then some x else if z = b then some y else m z) → (∀ c o, c ≠ env.locals → s₂.heap.get? c = some o → h'.get? c = some o) → Q .next { s₂ with heap := h', toks := tk }) E s₁) E s)
    (ha : env.kindOf a = some .local := by rfl) (hb : env.kindOf b = some .local := by rfl) (hp : (env.scope.kind == .class || (env.scope.kind == .module && env.locals != env.globals)) = false := by rfl)
    (hs : swapsWithSole [.Tuple [.Name a pa, .Name b pb] kt tp] (.Tuple [e1, e2] kv vp) pos.line env = pure false := by rfl)
    (hw : swappedStores [.Tuple [.Name a pa, .Name b pb] kt tp] (.Tuple [e1, e2] kv vp) env = pure (some [a, b]) := by rfl)
    (he : starEach [e1, e2] env = (false, eval e1 env) :: (false, eval e2 env) :: [] := by rfl) :
    wpAny (model prog w) A (exec (.Assign [.Tuple [.Name a pa, .Name b pb] kt tp] (.Tuple [e1, e2] kv vp) pos) env) Q E s := by
  refine Assign_Tuple_swapped ?_ hs hw
  refine Tuple_ ?_
  rw [he]
  refine spliced_cons (wpAny_mono h (fun x s₁ h₁ => spliced_cons (wpAny_mono h₁ (fun y s₂ h₂ => spliced_nil ?_) fun _ _ e => e)) fun _ _ e => e)
  obtain ⟨m, hn, hQ⟩ := h₂
  refine x_newtuple (by rw [sizeLine_eq]; show 2 ≤ _; decide) fun D h' k hD => ?_
  have hL : env.locals < s₂.heap.objs.size := hn.lt
  refine unpackItems_tuple (items := #[x, y]) hh ⟨_, hD, rfl, _, rfl⟩ fun h₂ he₂ => ?_
  have hn₁ : h'.Ns env.locals m := hn.at' fun o e => k _ o e
  have up₁ : ∀ c o, h'.get? c = some o → h₂.get? c = some o := fun c o e => he₂ c o (Nat.ne_of_lt (Heap.lt_size e)) e
  have hn₂ : h₂.Ns env.locals m := hn₁.at' fun o e => up₁ _ o e
  show wpAny _ _ (assignInOrder [fun v => bindName env b v, fun v => bindName env a v] [y, x]) _ _ _
  refine assignInOrder_cons ?_
  refine bindName_ (wpAny_storeName_local hb hn₂ (fun h₃ hn₃ hs₃ => ?_) hp)
  refine assignInOrder_cons ?_
  refine bindName_ (wpAny_storeName_local ha hn₃ (fun h₄ hn₄ hs₄ => ?_) hp)
  refine assignInOrder_nil ?_
  exact hQ h₄ _ hn₄ fun c o hc e => hs₄.extBut c o hc (hs₃.extBut c o hc (up₁ c o (k c o e)))
theorem x_three {a b c : Str} {pa pb pc tp : Pos} {kk : Nat} {T : Addr} {x y z : Value} {m : Str → Option Value} {Q : Unit → Shared → Prop} (hh : A.handled = none) (ht : s.heap.IsTuple T #[x, y, z])
    (ha : env.kindOf a = some .local) (hb : env.kindOf b = some .local) (hc : env.kindOf c = some .local) (hp : (env.scope.kind == .class || (env.scope.kind == .module && env.locals != env.globals)) = false) (hn : s.heap.Ns env.locals m)
    (h : ∀ (h' : Heap) (tk : Nat), h'.Ns env.locals (fun q => if q = c then some z else if q = b then some y else if q = a then some x else m q) → (∀ c o, c ≠ env.locals → s.heap.get? c = some o → h'.get? c = some o) → Q () { s with heap := h', toks := tk }) :
    wpAny (model prog w) A (assign (.Tuple [.Name a pa, .Name b pb, .Name c pc] kk tp) env (.ref T)) Q E s := by
  refine wpAny_assign_Tuple hh ht rfl rfl fun h₁ he₁ => ?_
  have hL : env.locals ≠ s.heap.objs.size := Nat.ne_of_lt hn.lt
  have hn₁ : h₁.Ns env.locals m := hn.at' fun o e => he₁ _ o hL e
  have up₁ : ∀ c o, s.heap.get? c = some o → h₁.get? c = some o := fun c o e => he₁ c o (Nat.ne_of_lt (Heap.lt_size e)) e
  show wpAny _ _ (assignInOrder [assign (.Name a pa) env, assign (.Name b pb) env, assign (.Name c pc) env] [x, y, z]) _ _ _
  refine assignInOrder_cons ?_
  refine wpAny_assign_Name (wpAny_storeName_local ha hn₁ (fun h₂ hn₂ hs₂ => ?_) hp)
  refine assignInOrder_cons ?_
  refine wpAny_assign_Name (wpAny_storeName_local hb hn₂ (fun h₃ hn₃ hs₃ => ?_) hp)
  refine assignInOrder_cons ?_
  refine wpAny_assign_Name (wpAny_storeName_local hc hn₃ (fun h₄ hn₄ hs₄ => ?_) hp)
  refine assignInOrder_nil ?_
  exact h h₄ _ hn₄ fun c o hc e => hs₄.extBut c o hc (hs₃.extBut c o hc (hs₂.extBut c o hc (up₁ c o e)))
end
theorem kept_kp {h h' : Heap} (k : Kp [] h h') : Kept h h' := fun b o e => k b o e fun _ q => absurd q List.not_mem_nil
theorem fr_kept {g h h' : Heap} {L : Addr} {m : Str → Option Value} (F : Fr g L h m) (k : Kept h h') : Fr g L h' m := ⟨F.ns.at' fun o e => k _ o e, fun b o e => k _ _ (F.keep b o e), F.above⟩
theorem news_kept {g h h' : Heap} {L : Addr} {news : List (Addr × Obj)} (N : News g L h news) (k : Kept h h') : News g L h' news := fun p hp => ⟨k _ _ (N p hp).1, (N p hp).2⟩
theorem ofS_nil : Str.ofString "" = ⟨#[]⟩ := by decide
theorem catP_cat (ps : List (Str × Str)) : Txt.join (Str.ofString "") (ps.map fun p => p.1 ++ p.2) = txt ps := by
  rw [ofS_nil, join_nil_cat, ← cat_pairs]
  congr 1
  refine List.map_congr_left fun p _ => ?_
  exact Str.ext' (by simp [cat, Str.cps_append])
end Mine
end
section
open PySem PySem.W PyProof.Rows PySem.Calls PySem.Spec PyProof.Rows.LCg
set_option maxHeartbeats 2000000
namespace Mine
section
variable {prog : Program} {w : World} {A : Around} {E : Value → Shared → Prop} {env cenv : Env} {elt target target2 iter iter2 : PySem.Expr} {scope : Scope} {pos : Pos} {R : Result → Shared → Prop} {s : Shared}
theorem start_in {it acc : Value}
    (h0 : codeAny (model prog w) A (.compLoop (.ListComp elt [⟨target, iter, [], 0⟩, ⟨target2, iter2, [], 0⟩] scope pos) 1 it acc env) R s)
    (h : wpAny (model prog w) A (pyIter it) (fun it' s' => codeAny (model prog w) A (.compLoop (.ListComp elt [⟨target, iter, [], 0⟩, ⟨target2, iter2, [], 0⟩] scope pos) 1 it' acc env) R s')
      (notedBy (model prog w) A env fun x s' => R (.error x) s') s) :
    codeAny (model prog w) A (.compStart (.ListComp elt [⟨target, iter, [], 0⟩, ⟨target2, iter2, [], 0⟩] scope pos) 1 it acc env) R s := by
  refine codeAny_of_tree ?_
  show wpAny _ _ ((compStart (.ListComp elt [⟨target, iter, [], 0⟩, ⟨target2, iter2, [], 0⟩] scope pos) 1 it acc env).onRaise (fun x => do noteFrame x env; standAt theWindowsPlace)) _ _ s
  refine wpAny_notedAt ?_
  unfold compStart
  show wpAny _ _ (ask >>= _) _ _ s
  refine wpAny_bind (wpAny_askSetting (wpAny_ite ?_))
  split
  · first
      | exact wpAny_bind (wpAny_pure (wpAny_pure (And.intro rfl h0)))
      | exact wpAny_pure (And.intro rfl h0)
  · first
      | exact wpAny_bind (wpAny_rule (wpAny_bind (wpAny_standAt (wpAny_bind (wpAny_mono h (fun it' s' h' => wpAny_pure (And.intro rfl h')) fun _ _ x => x)))))
      | (refine wpAny_bind (wpAny_rule ?_); show wpAny _ _ (standAt iter2.pos >>= _) _ _ s; exact wpAny_bind (wpAny_standAt (wpAny_bind (wpAny_mono h (fun it' s' h' => wpAny_pure (And.intro rfl h')) fun _ _ x => x))))
end
section
variable {prog : Program} {w : World} {A : Around} {E : Value → Shared → Prop} {env cenv : Env} {iter : PySem.Expr} {scope : Scope} {pos : Pos} {x y : Str} {px py1 py2 px2 : Pos}
noncomputable abbrev flatE (x y : Str) (py1 px py2 px2 : Pos) (iter : PySem.Expr) (scope : Scope) (pos : Pos) : PySem.Expr := .ListComp (.Name y py1) [⟨.Name x px, iter, [], 0⟩, ⟨.Name y py2, .Name x px2, [], 0⟩] scope pos
theorem flat_in {l2 I2 I D lo : Addr} {its2 : Array Value} {R : Result → Shared → Prop} {s₁ : Shared} {h₁ : Heap} (ys0 : List Value) (io : Nat)
    (hh : A.handled = none) (hsz : ys0.length + its2.size ≤ sizeLine) (hl : h₁.IsList l2 its2) (hI2 : h₁.get? I2 = none) (hI : h₁.get? I = none) (hD : h₁.get? D = none) (hC : h₁.get? cenv.locals = none)
    (d1 : I2 ≠ I) (d2 : I2 ≠ D) (d3 : I2 ≠ cenv.locals) (d4 : I ≠ D) (d5 : I ≠ cenv.locals) (d6 : D ≠ cenv.locals)
    (hk : cenv.scope.kind = .function) (hy : cenv.kindOf y = some .local) (hp : (cenv.scope.kind == .class || (cenv.scope.kind == .module && cenv.locals != cenv.globals)) = false) (hdb : (y == ("__debug__" : Str)) = false)
    (fin : ∀ h (gs : BG) tk m, Kept h₁ h → h.IsListIter I lo io → h.get? D = some (lst (ys0 ++ its2.toList)) → h.Ns cenv.locals m → R (.ok .next) ⟨h, gs.1, s₁.drawn, tk, s₁.os⟩)
    (h : Heap) (gs : BG) (tk : Nat) (m : Str → Option Value) (k0 : Kept h₁ h) (it0 : h.IsListIter I2 l2 0) (ito : h.IsListIter I lo io) (e0 : h.get? D = some (lst ys0)) (n0 : h.Ns cenv.locals m) :
    codeAny (model prog w) A (.compLoop (flatE x y py1 px py2 px2 iter scope pos) 1 (.ref I2) (.ref D) cenv) R ⟨h, gs.1, s₁.drawn, tk, s₁.os⟩ := by
  refine codeAny_loop rfl (fun n s' => ∃ h, ∃ (gs : BG), ∃ tk i m, s' = ⟨h, gs.1, s₁.drawn, tk, s₁.os⟩ ∧ i ≤ its2.size ∧ n = its2.size - i ∧ Kept h₁ h ∧ h.IsListIter I2 l2 i ∧ h.IsListIter I lo io ∧ h.get? D = some (lst (ys0 ++ its2.toList.take i)) ∧ h.Ns cenv.locals m) (fun n s' hJ => ?_) its2.size
    ⟨h, gs, tk, 0, m, rfl, Nat.zero_le _, rfl, k0, it0, ito, by simpa using e0, n0⟩
  obtain ⟨h, gs, tk, i, m, rfl, hi, rfl, k, it, ito, d, nn⟩ := hJ
  show wpAny _ A ((compTurn (flatE x y py1 px py2 px2 iter scope pos) 1 (.ref I2) (.ref D) cenv).onRaise (fun x => do noteFrame x cenv; theTreesLotGoes x)) _ _ _
  refine wpAny_noted ?_
  rw [compTurn_in]
  refine wpAny_bind (wpAny_standAt (wpAny_bind ?_))
  have hlh : h.IsList l2 its2 := hl.at fun o e => k _ _ e
  by_cases hlt : i < its2.size
  · refine wpAny_pyNext_list_item (s := ⟨h, gs.1, s₁.drawn, tk, s₁.os⟩) (l := l2) (i := i) (x := its2[i]) it hlh (by simp [hlt]) fun h' hit hs => ?_
    dsimp only
    have k1 := k.but hI2 hs.extBut
    have e1 : h'.get? D = some (lst (ys0 ++ its2.toList.take i)) := hs.extBut _ _ (Ne.symm d2) d
    have n1 := ns_but nn (Ne.symm d3) hs.extBut
    have io1 : h'.IsListIter I lo io := ito.extBut hs.extBut (Ne.symm d1)
    refine wpAny_bind (wpAny_pure (wpAny_bind (wpAny_assign_Name (wpAny_storeName_local hy n1 (fun h2 n2 s2 => ?_) hp))))
    have k2 := k1.but hC s2.extBut
    have e2 : h2.get? D = some (lst (ys0 ++ its2.toList.take i)) := s2.extBut _ _ d6 e1
    have io2 : h2.IsListIter I lo io := io1.extBut s2.extBut d5
    have it2 : h2.IsListIter I2 l2 (i + 1) := hit.extBut s2.extBut d3
    refine wpAny_bind (wpAny_bind (wpAny_Name (wpAny_loadName_local (v := its2[i]) hk hy n2 (by simp) ?_) hdb))
    refine wpAny_bind (append_at (hsz := by show (ys0 ++ List.take i its2.toList).toArray.size ≤ _; have h9 := Array.length_toList (xs := its2); rw [List.size_toArray, List.length_append, List.length_take]; omega) e2 fun h5 hs5 hD5 => ?_)
    refine wpAny_pure (wpAny_pure ⟨rfl, its2.size - (i + 1), by omega, h5, gs, _, i + 1, _, rfl, hlt, rfl, k2.but hD hs5.extBut, it2.extBut hs5.extBut d2, io2.extBut hs5.extBut d4, ?_, ns_but n2 (Ne.symm d6) hs5.extBut⟩)
    refine hD5.trans (congrArg some ((lst_snoc _ _).trans ?_))
    rw [List.append_assoc, List.take_add_one]
    simp [hlt]
  · have e : i = its2.size := by omega
    subst e
    refine wpAny_pyNext_list_end (s := ⟨h, gs.1, s₁.drawn, tk, s₁.os⟩) (l := l2) (i := its2.size) hh it hlh (by simp) fun h' hs => ?_
    refine wpAny_pure (fin h' gs tk m (k.but hI2 hs) (ito.extBut hs (Ne.symm d1)) ?_ (ns_but nn (Ne.symm d3) hs))
    have := hs _ _ (Ne.symm d2) d
    rw [← Array.length_toList, List.take_length] at this
    exact this
noncomputable def flatL (L : List (Array Value)) : List Value := L.flatMap fun a => a.toList
theorem flat_out {l I D : Addr} {its : Array Value} {inner : List (Array Value)} {R : Result → Shared → Prop} {s₁ : Shared} {h₁ : Heap}
    (hh : A.handled = none) (hsz : (flatL inner).length ≤ sizeLine) (hl : h₁.IsList l its) (hn : its.size = inner.length) (hin : ∀ j (hj : j < inner.length), ∃ r, its[j]? = some (.ref r) ∧ h₁.IsList r inner[j])
    (hI : h₁.get? I = none) (hD : h₁.get? D = none) (hC : h₁.get? cenv.locals = none) (d4 : I ≠ D) (d5 : I ≠ cenv.locals) (d6 : D ≠ cenv.locals)
    (hk : cenv.scope.kind = .function) (hx : cenv.kindOf x = some .local) (hy : cenv.kindOf y = some .local) (hp : (cenv.scope.kind == .class || (cenv.scope.kind == .module && cenv.locals != cenv.globals)) = false) (hdx : (x == ("__debug__" : Str)) = false) (hdb : (y == ("__debug__" : Str)) = false)
    (hfold : ∀ v, foldedSetIterable (.Name x px2) cenv v = pure v)
    (fin : ∀ h (gs : BG) tk m, Kept h₁ h → h.get? D = some (lst (flatL inner)) → h.Ns cenv.locals m → R (.ok .next) ⟨h, gs.1, s₁.drawn, tk, s₁.os⟩)
    (h : Heap) (gs : BG) (tk : Nat) (m : Str → Option Value) (k0 : Kept h₁ h) (ito : h.IsListIter I l 0) (e0 : h.get? D = some (lst [])) (n0 : h.Ns cenv.locals m) :
    codeAny (model prog w) A (.compLoop (flatE x y py1 px py2 px2 iter scope pos) 0 (.ref I) (.ref D) cenv) R ⟨h, gs.1, s₁.drawn, tk, s₁.os⟩ := by
  refine codeAny_loop rfl (fun n s' => ∃ h, ∃ (gs : BG), ∃ tk i m, s' = ⟨h, gs.1, s₁.drawn, tk, s₁.os⟩ ∧ i ≤ inner.length ∧ n = inner.length - i ∧ Kept h₁ h ∧ h.IsListIter I l i ∧ h.get? D = some (lst (flatL (inner.take i))) ∧ h.Ns cenv.locals m) (fun n s' hJ => ?_) inner.length
    ⟨h, gs, tk, 0, m, rfl, Nat.zero_le _, rfl, k0, ito, by simpa [flatL] using e0, n0⟩
  obtain ⟨h, gs, tk, i, m, rfl, hi, rfl, k, it, d, nn⟩ := hJ
  show wpAny _ A ((compTurn (flatE x y py1 px py2 px2 iter scope pos) 0 (.ref I) (.ref D) cenv).onRaise (fun x => do noteFrame x cenv; theTreesLotGoes x)) _ _ _
  refine wpAny_noted ?_
  rw [compTurn_out]
  refine wpAny_bind (wpAny_standAt (wpAny_bind ?_))
  have hlh : h.IsList l its := hl.at fun o e => k _ _ e
  by_cases hlt : i < inner.length
  · obtain ⟨r, hr, hlr⟩ := hin i hlt
    refine wpAny_pyNext_list_item (s := ⟨h, gs.1, s₁.drawn, tk, s₁.os⟩) (l := l) (i := i) (x := .ref r) it hlh hr fun h' hit hs => ?_
    dsimp only
    have k1 := k.but hI hs.extBut
    have e1 : h'.get? D = some (lst (flatL (inner.take i))) := hs.extBut _ _ (Ne.symm d4) d
    have n1 := ns_but nn (Ne.symm d5) hs.extBut
    refine wpAny_bind (wpAny_pure (wpAny_bind (wpAny_assign_Name (wpAny_storeName_local hx n1 (fun h2 n2 s2 => ?_) hp))))
    have k2 := k1.but hC s2.extBut
    have e2 : h2.get? D = some (lst (flatL (inner.take i))) := s2.extBut _ _ d6 e1
    have io2 : h2.IsListIter I l (i + 1) := hit.extBut s2.extBut d5
    refine wpAny_bind (wpAny_Name (wpAny_loadName_local (v := .ref r) hk hx n2 (show (if x = x then some (Value.ref r) else m x) = some (Value.ref r) from if_pos rfl) ?_) hdx)
    refine wpAny_bind (wpAny_standAt (wpAny_bind (wpAny_of_eq (hfold _) (wpAny_bind (wpAny_holding ?_)))))
    refine wpAny_pyIter_list (hlr.at fun o e => k2 _ _ e) ?_
    have fI2 : (h2.push ({ cls := .type "list_iterator", data := .fields #[.ref r, .int 0 0] } : Obj)).get? h2.objs.size = some _ := Heap.get?_push_size _ rfl
    have k3 : Kept h2 (h2.push ({ cls := .type "list_iterator", data := .fields #[.ref r, .int 0 0] } : Obj)) := fun _ _ e => Heap.get?_push_of_some _ e
    dsimp only
    generalize (h2.push ({ cls := .type "list_iterator", data := .fields #[.ref r, .int 0 0] } : Obj)) = h3 at fI2 k3 ⊢
    have lt : ∀ {a : Addr} {o : Obj}, h2.get? a = some o → h2.objs.size ≠ a := fun e q => by rw [← q] at e; exact absurd (Heap.lt_size e) (Nat.lt_irrefl _)
    have nI2 : h₁.get? h2.objs.size = none := by
      cases q : h₁.get? h2.objs.size with
      | none => rfl
      | some o => exact absurd (Heap.lt_size (k2 _ _ q)) (Nat.lt_irrefl _)
    obtain ⟨oI, hoI, _⟩ := id io2
    obtain ⟨oC, esC, epC, hoC, _⟩ := id n2
    have main : ∀ tk', codeAny (model prog w) (A.mark none) (.compLoop (flatE x y py1 px py2 px2 iter scope pos) 1 (.ref h2.objs.size) (.ref D) cenv) (fun r s' => match r with
        | .ok f => wpAny (model prog w) A (again (.compLoop (flatE x y py1 px py2 px2 iter scope pos) 0 (.ref I) (.ref D) cenv)) (fun fin s' => match fin with | .done f => R (.ok f) s' | .again c' => c' = (.compLoop (flatE x y py1 px py2 px2 iter scope pos) 0 (.ref I) (.ref D) cenv) ∧ ∃ m, m < inner.length - i ∧ (∃ h, ∃ (gs : BG), ∃ tk i m_1, s' = ⟨h, gs.1, s₁.drawn, tk, s₁.os⟩ ∧ i ≤ inner.length ∧ m = inner.length - i ∧ Kept h₁ h ∧ h.IsListIter I l i ∧ h.get? D = some (lst (flatL (inner.take i))) ∧ h.Ns cenv.locals m_1)) (notedBy (model prog w) A cenv fun e s' => R (.error e) s') s'
        | .error e => cameBackBy (model prog w) A cenv (notedBy (model prog w) A cenv fun e s' => R (.error e) s') e s') ⟨h3, gs.1, s₁.drawn, tk', s₁.os⟩ := by
      intro tk'
      refine flat_in (lo := l) (s₁ := s₁) (h₁ := h₁) (flatL (inner.take i)) (i + 1) hh ?_ hlr nI2 hI hD hC (lt hoI) (lt e2) (lt hoC) d4 d5 d6 hk hy hp hdb (fun h gs tk m k ito e n => ?_) h3 gs tk' _ (k2.trans k3) ⟨_, fI2, rfl, rfl⟩ (let ⟨o, a, b⟩ := io2; ⟨o, k3 _ _ a, b⟩) (k3 _ _ e2) (n2.at' fun o e => k3 _ _ e)
      · have e : inner = inner.take i ++ (inner[i] :: inner.drop (i + 1)) := by rw [← List.drop_eq_getElem_cons hlt, List.take_append_drop]
        have e2 := congrArg (fun z => (flatL z).length) e
        have e3 : (flatL (inner.take i ++ (inner[i] :: inner.drop (i + 1)))).length = (flatL (inner.take i)).length + ((inner[i]).size + (flatL (inner.drop (i + 1))).length) := by
          unfold flatL
          rw [List.flatMap_append, List.flatMap_cons, List.length_append, List.length_append]
          have h9 : inner[i].toList.length = inner[i].size := Array.length_toList
          omega
        have e4 := e2.trans e3
        omega
      · refine wpAny_pure ⟨rfl, inner.length - (i + 1), by omega, h, gs, tk, i + 1, m, rfl, hlt, rfl, k, ito, ?_, n⟩
        have e9 : flatL (inner.take (i + 1)) = flatL (inner.take i) ++ inner[i].toList := by
          rw [List.take_succ_eq_append_getElem hlt]
          unfold flatL
          rw [List.flatMap_append, List.flatMap_cons, List.flatMap_nil, List.append_nil]
        rw [e9]; exact e
    refine wpAny_bind (wpAny_runOwn (start_in (main _) ?_))
    exact wpAny_pyIter_listiter (l := r) (i := 0) ⟨_, fI2, rfl, rfl⟩ (main _)
  · have e : i = inner.length := by omega
    subst e
    refine wpAny_pyNext_list_end (s := ⟨h, gs.1, s₁.drawn, tk, s₁.os⟩) (l := l) (i := inner.length) hh it hlh (by simp [← hn]) fun h' hs => ?_
    refine wpAny_pure (fin h' gs tk m (k.but hI hs) ?_ (ns_but nn (Ne.symm d5) hs))
    have := hs _ _ (Ne.symm d4) d
    rw [List.take_length] at this
    exact this
theorem x_flat {s : Shared} {Q : Value → Shared → Prop} (hh : A.handled = none)
    (h : wpAny (model prog w) A (eval iter env) (fun v s₁ => ∃ (l : Addr) (its : Array Value) (inner : List (Array Value)), v = .ref l ∧ AllBare s₁.gens ∧ s₁.heap.IsList l its ∧ its.size = inner.length ∧ (flatL inner).length ≤ sizeLine ∧ (∀ j (hj : j < inner.length), ∃ r, its[j]? = some (.ref r) ∧ s₁.heap.IsList r inner[j]) ∧
      ∀ D h (gs : BG) tk, Kept s₁.heap h → h.IsList D (flatL inner).toArray → Q (.ref D) ⟨h, gs.1, s₁.drawn, tk, s₁.os⟩) E s)
    (hclos : closureFor scope env = pure [] := by rfl) (hcell : ∀ y ∈ scope.names, y.2 ≠ .cell := by decide) (hkind : scope.kind = .function := by rfl)
    (hnames : ∀ y ∈ scope.names, y.2 = .local → scope.names.lookup y.1 = some .local := by decide) (hs : ∀ x, foldedSetIterable iter env x = pure x := by intro _; rfl)
    (hx : ∀ C, (compEnvC scope [] C env).kindOf x = some .local := by intro _; rfl) (hy : ∀ C, (compEnvC scope [] C env).kindOf y = some .local := by intro _; rfl)
    (hp : ∀ C, ((compEnvC scope [] C env).scope.kind == .class || ((compEnvC scope [] C env).scope.kind == .module && (compEnvC scope [] C env).locals != (compEnvC scope [] C env).globals)) = false := by intro _; rfl)
    (hdx : (x == ("__debug__" : Str)) = false := by decide) (hdb : (y == ("__debug__" : Str)) = false := by decide) (hfold : ∀ C v, foldedSetIterable (.Name x px2) (compEnvC scope [] C env) v = pure v := by intro _ _; rfl) :
    wpAny (model prog w) A (eval (flatE x y py1 px py2 px2 iter scope pos) env) Q E s := by
  rw [eval_ListComp]
  refine wpAny_comprehension_free (use := none) rfl hs hclos hkind hnames (wpAny_mono h (fun xv s₁ h₁ => ?_) fun _ _ e => e)
  obtain ⟨l, its, inner, rfl, gb, hl, hn, hsz, hin, fin⟩ := h₁
  have fr : ∀ a, s₁.heap.objs.size ≤ a → s₁.heap.get? a = none := fun a ha => by
    cases e : s₁.heap.get? a with
    | none => rfl
    | some o' => exact absurd (Heap.lt_size e) (Nat.not_lt.mpr ha)
  refine wpAny_pyIter_list hl ?_
  have f1 : (s₁.heap.push ({ cls := .type "list_iterator", data := .fields #[.ref l, .int 0 0] } : Obj)).get? s₁.heap.objs.size = some _ := Heap.get?_push_size _ rfl
  have k1 : Kept s₁.heap (s₁.heap.push ({ cls := .type "list_iterator", data := .fields #[.ref l, .int 0 0] } : Obj)) := fun _ _ e => Heap.get?_push_of_some _ e
  have z1 : (s₁.heap.push ({ cls := .type "list_iterator", data := .fields #[.ref l, .int 0 0] } : Obj)).objs.size = s₁.heap.objs.size + 1 := Heap.size_push ..
  generalize (s₁.heap.push ({ cls := .type "list_iterator", data := .fields #[.ref l, .int 0 0] } : Obj)) = H1 at f1 k1 z1 ⊢
  refine wpAny_newObj_type (wpAny_newFunctionEnv hcell (by intro y hy; simp at hy) (fun h₁ hns₁ hsb₁ => ?_) hkind)
  dsimp only at hns₁ hsb₁ ⊢
  have f2 : (H1.push ({ cls := .type "list", dict := none, data := .seq ([] : List Value).toArray } : Obj)).get? H1.objs.size = some (lst []) := Heap.get?_push_size _ rfl
  have k2 : Kept H1 (H1.push ({ cls := .type "list", dict := none, data := .seq ([] : List Value).toArray } : Obj)) := fun _ _ e => Heap.get?_push_of_some _ e
  have z2 : (H1.push ({ cls := .type "list", dict := none, data := .seq ([] : List Value).toArray } : Obj)).objs.size = H1.objs.size + 1 := Heap.size_push ..
  generalize (H1.push ({ cls := .type "list", dict := none, data := .seq ([] : List Value).toArray } : Obj)) = H2 at f2 k2 z2 hns₁ hsb₁ ⊢
  have k3 : Kept H2 h₁ := fun b o e => hsb₁.extBut b o (Nat.ne_of_lt (Heap.lt_size e)) (Heap.get?_push_of_some _ e)
  have main : ∀ (s₃ : Shared), s₃ = ⟨h₁, s₁.gens, s₁.drawn, s₁.toks + ([] : List (Str × Value)).length, s₁.os⟩ →
      codeAny (model prog w) A (.compLoop (flatE x y py1 px py2 px2 iter scope pos) 0 (.ref s₁.heap.objs.size) (.ref H1.objs.size) (compEnvC scope [] H2.objs.size env)) (compPost (model prog w) A E none Q (.ref H1.objs.size) H2.objs.size) s₃ := by
    rintro s₃ rfl
    refine flat_out (s₁ := s₁) (h₁ := s₁.heap) hh hsz hl hn hin (fr _ (Nat.le_refl _)) (fr _ (by omega)) (fr _ (by show _ ≤ H2.objs.size; omega)) (show @Ne Nat s₁.heap.objs.size H1.objs.size by omega) (show @Ne Nat s₁.heap.objs.size H2.objs.size by omega) (show @Ne Nat H1.objs.size H2.objs.size by omega)
      hkind (hx _) (hy _) (hp _) hdx hdb (hfold _) ?_ h₁ ⟨_, gb⟩ _ _ ((k1.trans k2).trans k3) ⟨_, k3 _ _ (k2 _ _ f1), rfl, rfl⟩ (k3 _ _ f2) hns₁
    intro h gs tk m k d n
    have q2 : s₁.heap.objs.size ≤ H2.objs.size := by omega
    have q3 : H1.objs.size ≠ H2.objs.size := by omega
    exact ⟨m, n, fun h' hs' => fin H1.objs.size h' gs tk (k.but (fr _ q2) hs'.extBut) ⟨_, hs'.extBut _ _ q3 d, rfl, _, rfl⟩⟩
  exact codeAny_compStart_list (main _ rfl) (wpAny_pyIter_listiter (s := ⟨h₁, s₁.gens, s₁.drawn, s₁.toks + ([] : List (Str × Value)).length, s₁.os⟩) (l := l) (i := 0) ⟨_, k3 _ _ (k2 _ _ f1), rfl, rfl⟩ (main _ rfl))
end
end Mine
end
section
open PySem PySem.W PyProof.Rows PySem.Calls PySem.Spec PyProof.Rows.LCg
set_option maxHeartbeats 2000000
namespace Mine
theorem range_up (n : Nat) (h : n ≤ 1000) : Builtin.Range.rangeSize 0 n 1 = n ∧ Builtin.Range.small 0 n 1 = true := by
  refine ⟨by rw [rangeSize_one]; split <;> omega, small_one (by decide) (by decide) (by omega) (by omega)⟩
theorem ks_but {h h' : Heap} {I : Addr} {o : Obj} {fs : Array Value} (ho : h.get? I = some o) (hd : o.data = .fields fs) (y : Heap.ExtBut I h h') : KS h h' := fun b o' e q => y b o' (fun hb => by
  obtain ⟨⟨a, n, hd'⟩, _⟩ := q
  rw [hb, ho] at e
  cases e
  rw [hd] at hd'
  cases hd') e
theorem ks_kp {h h' : Heap} {b₀ : Heap} {S : List (Addr × Obj)} (O : Own b₀ h S) (hS : ∀ p ∈ S, ∃ fs, p.2.data = .fields fs) (k : Kp S h h') : KS h h' := fun b o e q => k b o e fun p hp hb => by
  obtain ⟨⟨a, n, hd'⟩, _⟩ := q
  obtain ⟨fs, hf⟩ := hS p hp
  have := (O.mem p hp).1
  rw [hb, e] at this
  rw [← Option.some.inj this, hd'] at hf
  cases hf
theorem joinOk_le {z x y : Str} (hzy : z.length ≤ y.length) (hy : y.length ≤ 10) (hx : x.length ≤ 100000) : JoinOk z (Txt.split x y) = true := by
  refine joinOk_of _ _ ?_
  have h1 : ((Txt.split x y).map fun x => x.length + z.length).sum ≤ ((Txt.split x y).map fun x => x.length + y.length).sum := by
    generalize Txt.split x y = l
    induction l with
    | nil => simp
    | cons a r ih => simp only [List.map_cons, List.sum_cons]; omega
  refine Nat.le_trans h1 ?_
  by_cases h : Txt.split x y = []
  · rw [h]; simp
  · rw [join_len y _ h, StrLaws.join_split, sizeLine_eq]
    omega
section
variable {prog : Program} {w : World} {A : Around} {g : Heap} {L I : Addr} {env : Env} {target : PySem.Expr} {body orelse : List Stmt} {Q : Flow → Shared → Prop}
noncomputable def RngEnd (g : Heap) (L I : Addr) (n j : Nat) (Inv : Nat → (Str → Option Value) → List (Addr × Obj) → Heap → Prop) (s₀ s₁ : Shared) : Prop :=
  ∃ m' news' h' , ∃ (gs' : BG), ∃ tk', s₁ = ⟨h', gs'.1, s₀.drawn, tk', s₀.os⟩ ∧ Inv j m' news' h' ∧ Fr g L h' m' ∧ News g L h' ((I, rangeIt j ((n : Int) - j) 1) :: news') ∧ ∀ p ∈ news', p.1 ≠ I
noncomputable def RngMid (g : Heap) (L I : Addr) (n j : Nat) (Inv : Nat → (Str → Option Value) → List (Addr × Obj) → Heap → Prop) (Q : Flow → Shared → Prop) (s₀ : Shared) (f : Flow) (s₁ : Shared) : Prop :=
  match f with
  | .next => RngEnd g L I n j Inv s₀ s₁
  | .cont => RngEnd g L I n j Inv s₀ s₁
  | .brk => Q .next s₁
  | .ret v => Q (.ret v) s₁
theorem for_rng (n : Nat) (Inv : Nat → (Str → Option Value) → List (Addr × Obj) → Heap → Prop) (hst : ∀ j m news h h', KS h h' → Inv j m news h → Inv j m news h') (hh : A.handled = none)
    (turn : ∀ j m news h (gs : BG) tk tv (s₀ : Shared), j < n → Inv j m news h → Fr g L h m → News g L h ((I, rangeIt ((j + 1 : Nat) : Int) ((n : Int) - (j + 1 : Nat)) 1) :: news) → (∀ p ∈ news, p.1 ≠ I) →
      wpAny (model prog w) A (letOwnedTupleGo target (.ref I) (.int j tv)) (fun _ s₂ => wpAny (model prog w) A (assign target env (.int j tv)) (fun _ s₃ => wpAny (model prog w) A (execs body env) (RngMid g L I n (j + 1) Inv Q s₀) Nope s₃) Nope s₂) Nope ⟨h, gs.1, s₀.drawn, tk, s₀.os⟩)
    (s₀ : Shared) (done : ∀ m news h (gs : BG) tk, Inv n m news h → Fr g L h m → News g L h news → wpAny (model prog w) A (execs orelse env) Q Nope ⟨h, gs.1, s₀.drawn, tk, s₀.os⟩) :
    ∀ (k i : Nat) m news h (gs : BG) tk, n - i = k → i ≤ n → Inv i m news h → Fr g L h m → News g L h ((I, rangeIt i ((n : Int) - i) 1) :: news) → (∀ p ∈ news, p.1 ≠ I) →
      ForRest prog w A env target (.ref I) body orelse Q ⟨h, gs.1, s₀.drawn, tk, s₀.os⟩ := by
  intro k
  induction k with
  | zero =>
    intro i m news h gs tk hk hi J F N hne
    have e : i = n := by omega
    subst e
    refine for_turn ?_
    refine wpAny_pyNext_range_end (s := ⟨h, gs.1, s₀.drawn, tk, s₀.os⟩) hh (N _ (.head _)).1 (by omega) fun h' hs => ?_
    obtain ⟨F', N'⟩ := chg_K (s := ⟨h, gs.1, s₀.drawn, tk, s₀.os⟩) F N (.cons (.head hne) .nil) hs
    exact done m news h' gs tk (hst _ _ _ _ _ (ks_but (N _ (.head _)).1 rfl hs) J) F' N'
  | succ k ih =>
    intro i m news h gs tk hk hi J F N hne
    have hlt : i < n := by omega
    refine for_turn ?_
    refine wpAny_pyNext_range_item (s := ⟨h, gs.1, s₀.drawn, tk, s₀.os⟩) (N _ (.head _)).1 (by omega) fun h' hit hs => ?_
    obtain ⟨F', N'⟩ := chg_K1 (s := ⟨h, gs.1, s₀.drawn, tk, s₀.os⟩) F N (.cons (.head hne) .nil) hs.extBut hit
    dsimp only
    have J' := hst _ _ _ _ _ (ks_but (N _ (.head _)).1 rfl hs.extBut) J
    have e1 : rangeIt ((i : Int) + 1) ((n : Int) - i - 1) 1 = rangeIt ((i + 1 : Nat) : Int) ((n : Int) - (i + 1 : Nat)) 1 := by
      rw [show (i : Int) + 1 = ((i + 1 : Nat) : Int) by omega, show (n : Int) - i - 1 = (n : Int) - (i + 1 : Nat) by omega]
    have N' : News g L h' ((I, rangeIt ((i : Int) + 1) ((n : Int) - i - 1) 1) :: news) := N'
    rw [e1] at N'
    refine wpAny_mono (turn i m news h' gs _ _ s₀ hlt J' F' N' hne) (fun _ s₂ z => wpAny_mono z (fun _ s₃ z => wpAny_mono z (fun f s₄ z => ?_) fun _ _ z => z) fun _ _ z => z) fun _ _ z => z
    have fin : RngEnd g L I n (i + 1) Inv s₀ s₄ → ForRest prog w A env target (.ref I) body orelse Q s₄ := by
      rintro ⟨m2, news2, h2, gs2, tk2, rfl, J2, F2, N2, hne2⟩
      exact ih (i + 1) m2 news2 h2 gs2 tk2 (by omega) hlt J2 F2 N2 hne2
    cases f with
    | next => exact fin z
    | cont => exact fin z
    | brk => exact z
    | ret v => exact z
end
end Mine
end
section
open PySem PySem.W PyProof.Rows PySem.Calls PySem.Spec PyProof.Rows.LCg
set_option maxHeartbeats 2000000
namespace Mine
structure TupIt (o : Obj) (t : Addr) (i : Nat) : Prop where
  cls : o.cls = .type "tuple_iterator"
  data : o.data = .fields #[.ref t, .int i 0]
theorem ks_tup {h h' : Heap} {t : Addr} {its : Array Value} (ht : h.IsTuple t its) (k : KS h h') : h'.IsTuple t its :=
  let ⟨o, ho, hc, n, hd⟩ := ht; ⟨o, k _ _ ho ⟨⟨_, _, hd⟩, .inr hc⟩, hc, n, hd⟩
section
variable {prog : Program} {w : World} {A : Around} {g : Heap} {L I : Addr} {env : Env} {target : PySem.Expr} {body orelse : List Stmt} {Q : Flow → Shared → Prop}
noncomputable def TupEnd (g : Heap) (L I : Addr) (t j : Nat) (Inv : Nat → (Str → Option Value) → List (Addr × Obj) → Heap → Prop) (s₀ s₁ : Shared) : Prop :=
  ∃ m' news' o' h' , ∃ (gs' : BG), ∃ tk', s₁ = ⟨h', gs'.1, s₀.drawn, tk', s₀.os⟩ ∧ Inv j m' news' h' ∧ Fr g L h' m' ∧ News g L h' ((I, o') :: news') ∧ TupIt o' t j ∧ ∀ p ∈ news', p.1 ≠ I
noncomputable def TupMid (g : Heap) (L I : Addr) (t j : Nat) (Inv : Nat → (Str → Option Value) → List (Addr × Obj) → Heap → Prop) (Q : Flow → Shared → Prop) (s₀ : Shared) (f : Flow) (s₁ : Shared) : Prop :=
  match f with
  | .next => TupEnd g L I t j Inv s₀ s₁
  | .cont => TupEnd g L I t j Inv s₀ s₁
  | .brk => Q .next s₁
  | .ret v => Q (.ret v) s₁
theorem for_tup {t : Nat} {its : Array Value} (Inv : Nat → (Str → Option Value) → List (Addr × Obj) → Heap → Prop) (hst : ∀ j m news h h', KS h h' → Inv j m news h → Inv j m news h') (hh : A.handled = none)
    (hl : ∀ j m news h, Inv j m news h → h.IsTuple t its)
    (turn : ∀ j m news o h (gs : BG) tk v (s₀ : Shared), its[j]? = some v → Inv j m news h → Fr g L h m → News g L h ((I, o) :: news) → TupIt o t (j + 1) → (∀ p ∈ news, p.1 ≠ I) →
      wpAny (model prog w) A (assign target env v) (fun _ s₃ => wpAny (model prog w) A (execs body env) (TupMid g L I t (j + 1) Inv Q s₀) Nope s₃) Nope ⟨h, gs.1, s₀.drawn, tk, s₀.os⟩)
    (s₀ : Shared) (done : ∀ m news h (gs : BG) tk, Inv its.size m news h → Fr g L h m → News g L h news → wpAny (model prog w) A (execs orelse env) Q Nope ⟨h, gs.1, s₀.drawn, tk, s₀.os⟩) :
    ∀ (k i : Nat) m news o h (gs : BG) tk, its.size - i = k → i ≤ its.size → Inv i m news h → Fr g L h m → News g L h ((I, o) :: news) → TupIt o t i → (∀ p ∈ news, p.1 ≠ I) →
      ForRest prog w A env target (.ref I) body orelse Q ⟨h, gs.1, s₀.drawn, tk, s₀.os⟩ := by
  intro k
  induction k with
  | zero =>
    intro i m news o h gs tk hk hi J F N S hne
    have e : i = its.size := by omega
    subst e
    refine for_turn ?_
    refine wpAny_pyNext_tuple_end (s := ⟨h, gs.1, s₀.drawn, tk, s₀.os⟩) (t := t) (i := its.size) hh ⟨o, (N _ (.head _)).1, S.cls, S.data⟩ (hl _ _ _ _ J) (by simp) fun h' y => ?_
    obtain ⟨F', N'⟩ := chg_K (s := ⟨h, gs.1, s₀.drawn, tk, s₀.os⟩) F N (.cons (.head hne) .nil) y
    exact done m news h' gs tk (hst _ _ _ _ _ (ks_but (N _ (.head _)).1 S.data y) J) F' N'
  | succ k ih =>
    intro i m news o h gs tk hk hi J F N S hne
    have hlt : i < its.size := by omega
    refine for_turn ?_
    refine wpAny_pyNext_tuple_item (s := ⟨h, gs.1, s₀.drawn, tk, s₀.os⟩) (t := t) (i := i) (x := its[i]) ⟨o, (N _ (.head _)).1, S.cls, S.data⟩ (hl _ _ _ _ J) (by simp [hlt]) fun h' hit y => ?_
    obtain ⟨o', ho', hc', hd'⟩ := id hit
    obtain ⟨F', N'⟩ := chg_K1 (s := ⟨h, gs.1, s₀.drawn, tk, s₀.os⟩) F N (.cons (.head hne) .nil) y.extBut ho'
    dsimp only
    have J' := hst _ _ _ _ _ (ks_but (N _ (.head _)).1 S.data y.extBut) J
    refine letGo_tupleiter hit ?_
    refine wpAny_mono (turn i m news o' h' gs tk its[i] s₀ (by simp [hlt]) J' F' N' ⟨hc', hd'⟩ hne) (fun _ s₃ z => wpAny_mono z (fun f s₄ z => ?_) fun _ _ z => z) fun _ _ z => z
    have fin : TupEnd g L I t (i + 1) Inv s₀ s₄ → ForRest prog w A env target (.ref I) body orelse Q s₄ := by
      rintro ⟨m2, news2, o2, h2, gs2, tk2, rfl, J2, F2, N2, S2, hne2⟩
      exact ih (i + 1) m2 news2 o2 h2 gs2 tk2 (by omega) hlt J2 F2 N2 S2 hne2
    cases f with
    | next => exact fin z
    | cont => exact fin z
    | brk => exact z
    | ret v => exact z
end
end Mine
end
section
open PySem PySem.W PyProof.Rows PySem.Calls PySem.Spec PyProof.Rows.LCg PySem.Builtin PySem.Builtin.Str
set_option maxHeartbeats 2000000
namespace Mine
theorem at_char {x y : PySem.Str} {c0 : Nat} {yr : List Nat} (hy : y.cps.toList = c0 :: yr) {n k : Nat} (hA : StrLaws.At x y n k) : x.cps.toList[k]? = some c0 := by
  have h := hA.2
  rw [StrLaws.subAt_eq] at h
  have h := eq_of_beq h
  have h2 : ((x.cps.toList.drop k).take y.length)[0]? = some c0 := by rw [h, hy]; rfl
  have hl : 0 < y.length := by
    show 0 < y.cps.size
    rw [← Array.length_toList, hy]; simp
  rw [List.getElem?_take_of_lt hl, List.getElem?_drop] at h2
  exact h2
theorem at_of {x y : PySem.Str} {k : Nat} {rest : List Nat} (h : x.cps.toList.drop k = y.cps.toList ++ rest) (hk : k ≤ x.length) : StrLaws.At x y x.length k := by
  have hn : x.cps.toList.length = x.length := by simp [PySem.Str.length]
  have hm : y.cps.toList.length = y.length := by simp [PySem.Str.length]
  refine ⟨?_, ?_⟩
  · have := congrArg List.length h
    rw [List.length_drop, List.length_append] at this
    omega
  · rw [StrLaws.subAt_eq, h, List.take_append_of_le_length (by omega), List.take_of_length_le (by omega)]
    exact beq_self_eq_true _
theorem join_cons2 (y p q : PySem.Str) (r : List PySem.Str) : (PySem.Str.join y (p :: q :: r)).cps.toList = p.cps.toList ++ (y.cps.toList ++ (PySem.Str.join y (q :: r)).cps.toList) := by
  show (p ++ y ++ PySem.Str.join y (q :: r)).cps.toList = _
  rw [PySem.Str.cps_append, PySem.Str.cps_append, Array.toList_append, Array.toList_append, List.append_assoc]
theorem parts_join {x y : PySem.Str} {c0 : Nat} {yr : List Nat} (hy : y.cps.toList = c0 :: yr) : ∀ (L : List PySem.Str) (a : Nat) (cuts : List Nat) (f : Nat), StrLaws.ChainG x y x.length a cuts f → (∀ k, f ≤ k → ¬ StrLaws.At x y x.length k) →
    x.cps.toList.drop a = (PySem.Str.join y L).cps.toList → a ≤ x.length → L ≠ [] → (∀ p ∈ L, c0 ∉ p.cps.toList) → StrLaws.partsFrom x y.length a cuts = L
  | [], _, _, _, _, _, _, _, h, _ => absurd rfl h
  | [p], a, cuts, f, hG, hn, hd, ha, _, hf => by
    have hxn : x.cps.toList.length = x.length := by simp [PySem.Str.length]
    have hd : x.cps.toList.drop a = p.cps.toList := hd
    cases cuts with
    | nil =>
      show [strSub x a x.length] = [p]
      congr 1
      apply PySem.Str.ext'
      apply Array.toList_inj.mp
      rw [StrLaws.strSub_toList, hd, List.take_of_length_le]
      rw [← hd, List.length_drop]; omega
    | cons c r =>
      exfalso
      have h1 := at_char hy hG.2.1
      have h2 : p.cps.toList[c - a]? = some c0 := by
        rw [← hd, List.getElem?_drop, show a + (c - a) = c by have := hG.1; omega]; exact h1
      exact hf p (.head _) (List.mem_of_getElem? h2)
  | p :: q :: r', a, cuts, f, hG, hn, hd, ha, _, hf => by
    have hxn : x.cps.toList.length = x.length := by simp [PySem.Str.length]
    have hpn : p.cps.toList.length = p.length := by simp [PySem.Str.length]
    have hyn : y.cps.toList.length = y.length := by simp [PySem.Str.length]
    rw [join_cons2] at hd
    have hlen := congrArg List.length hd
    rw [List.length_drop, List.length_append] at hlen
    have hA : StrLaws.At x y x.length (a + p.length) := by
      refine at_of (rest := (PySem.Str.join y (q :: r')).cps.toList) ?_ (by omega)
      rw [← List.drop_drop, hd, List.drop_left' hpn]
    cases cuts with
    | nil =>
      have ef : f = a := hG
      exact absurd hA (hn _ (by omega))
    | cons c r =>
      obtain ⟨g1, g2, g3, g4⟩ := hG
      have hc : c = a + p.length := by
        rcases Nat.lt_trichotomy c (a + p.length) with h | h | h
        · exfalso
          have h1 := at_char hy g2
          have h2 : p.cps.toList[c - a]? = some c0 := by
            have h3 : (x.cps.toList.drop a)[c - a]? = some c0 := by rw [List.getElem?_drop, show a + (c - a) = c by omega]; exact h1
            rw [hd, List.getElem?_append_left (by omega)] at h3
            exact h3
          exact hf p (.head _) (List.mem_of_getElem? h2)
        · exact h
        · exact absurd hA (g3 _ (by omega) h)
      subst hc
      show strSub x a (a + p.length) :: StrLaws.partsFrom x y.length (a + p.length + y.length) r = p :: q :: r'
      congr 1
      · apply PySem.Str.ext'
        apply Array.toList_inj.mp
        rw [StrLaws.strSub_toList, hd, show a + p.length - a = p.length by omega, List.take_left' hpn]
      · refine parts_join hy (q :: r') _ r f g4 hn ?_ (by have := g2.1; omega) (by simp) fun z hz => hf z (.tail _ hz)
        rw [Nat.add_assoc, ← List.drop_drop, ← List.drop_drop, hd, List.drop_left' hpn, List.drop_left' hyn]
theorem split_join {y : PySem.Str} {c0 : Nat} {yr : List Nat} (hy : y.cps.toList = c0 :: yr) (hk : PySem.Builtin.Str.strKind y = 1) {L : List PySem.Str} (hL : L ≠ []) (hf : ∀ p ∈ L, c0 ∉ p.cps.toList) : Txt.split (PySem.Str.join y L) y = L := by
  have hy1 : 1 ≤ y.length := by
    show 1 ≤ y.cps.size
    rw [← Array.length_toList, hy]; simp
  obtain ⟨f, hG, hn⟩ := StrLaws.occ_tight (PySem.Str.join y L) y hy1
  have key := parts_join hy L 0 _ f hG hn (List.drop_zero ..) (Nat.zero_le _) hL hf
  unfold Txt.split
  split
  · rename_i hc
    rw [Bool.or_eq_true, decide_eq_true_eq, decide_eq_true_eq] at hc
    rcases hc with h | h
    · cases ho : occurrences (PySem.Str.join y L) y 0 (PySem.Str.join y L).length ((PySem.Str.join y L).length + 1) with
      | nil =>
        rw [ho] at key
        rw [← key]
        show [_] = [_]
        rw [key, StrLaws.sub_whole]
      | cons c r =>
        rw [ho] at hG
        have := hG.2.1.1
        omega
    · rw [hk] at h
      exfalso
      unfold PySem.Builtin.Str.strKind at h
      split at h
      · omega
      · split at h <;> omega
  · split
    · rename_i he
      rw [List.isEmpty_iff.mp he] at key
      rw [← key]
      show [_] = [_]
      rw [key, StrLaws.sub_whole]
    · rw [StrLaws.partsBetween_eq]
      exact key
theorem takeWhile_app {goes : Nat → Bool} : ∀ (A B : List Nat), (∀ a ∈ A, goes a = true) → (∀ b, B.head? = some b → goes b = false) → (A ++ B).takeWhile goes = A
  | [], [], _, _ => rfl
  | [], b :: B, _, h => by rw [List.nil_append, List.takeWhile_cons, h b rfl]; rfl
  | a :: A, B, hA, hB => by
    rw [List.cons_append, List.takeWhile_cons, hA a (.head _), if_pos rfl, takeWhile_app A B (fun z hz => hA z (.tail _ hz)) hB]
theorem strip_mid {goes : Nat → Bool} {x : PySem.Str} {A B C : List Nat} (hx : x.cps.toList = A ++ (B ++ C)) (hA : ∀ a ∈ A, goes a = true) (hC : ∀ a ∈ C, goes a = true) (hne : B ≠ []) (h0 : ∀ b, B.head? = some b → goes b = false) (h1 : ∀ b, B.getLast? = some b → goes b = false) :
    (Txt.stripBy goes true true x).cps.toList = B := by
  have hn : x.cps.toList.length = x.length := by simp [PySem.Str.length]
  rw [PyProof.Rows.stripBy_eq, StrLaws.strSub_toList]
  have e1 : stripLo goes true x = A.length := by
    unfold stripLo
    rw [if_pos rfl, hx, takeWhile_app A _ hA fun b hb => ?_]
    cases B with
    | nil => exact absurd rfl hne
    | cons c B => exact h0 b (by simpa using hb)
  have e2 : stripHi goes true x (stripLo goes true x) = x.length - C.length := by
    rw [e1]
    unfold stripHi
    rw [if_pos rfl, hx, List.drop_left, List.reverse_append, takeWhile_app C.reverse _ (fun a ha => hC a (List.mem_reverse.mp ha)) fun b hb => ?_, List.length_reverse]
    rw [List.head?_reverse] at hb
    exact h1 b hb
  rw [e2, e1, hx, List.drop_left]
  have : x.length - C.length - A.length = B.length := by
    have := congrArg List.length hx
    rw [List.length_append, List.length_append] at this
    omega
  rw [this, List.take_left]
end Mine
end
section
open PySem PySem.W PyProof.Rows PySem.Calls PySem.Spec PyProof.Rows.LCg PySem.Builtin
set_option maxHeartbeats 2000000
namespace Mine
structure Wd (p : PySem.Str × PySem.Str) : Prop where
  g0 : p.1.cps.toList ≠ []
  g1 : p.1.length ≤ 2
  g2 : ∀ c ∈ p.1.cps.toList, c = 32
  w0 : p.2.cps.toList ≠ []
  w1 : p.2.length ≤ 10
  w2 : ∀ c ∈ p.2.cps.toList, 97 ≤ c ∧ c ≤ 122
noncomputable abbrev RowL := List (PySem.Str × PySem.Str)
theorem letter_ns {c : Nat} (h1 : 97 ≤ c) (h2 : c ≤ 122) : Unicode.isSpace c = false := by
  have key : ∀ k, k < 26 → Unicode.isSpace (97 + k) = false := by decide +kernel
  have := key (c - 97) (by omega)
  rwa [show 97 + (c - 97) = c by omega] at this
theorem sp32 : Unicode.isSpace 32 = true := by decide +kernel
theorem sp10 : Unicode.isSpace 10 = true := by decide +kernel
theorem sp9 : Unicode.isSpace 9 = true := by decide +kernel
noncomputable def flatR (r : RowL) : List Nat := r.flatMap fun p => p.1.cps.toList ++ p.2.cps.toList
theorem txt_list (r : RowL) : (txt r).cps.toList = flatR r := by unfold txt flatR; simp
noncomputable def bodyR : RowL → List Nat
  | [] => []
  | p :: r => p.2.cps.toList ++ flatR r
noncomputable def stripR (r : RowL) : PySem.Str := ⟨(bodyR r).toArray⟩
theorem stripR_list (r : RowL) : (stripR r).cps.toList = bodyR r := by unfold stripR; simp
noncomputable def gapR : RowL → List Nat
  | [] => []
  | p :: _ => p.1.cps.toList
theorem txt_body {r : RowL} (h : r ≠ []) : (txt r).cps.toList = gapR r ++ bodyR r := by
  cases r with
  | nil => exact absurd rfl h
  | cons p r => rw [txt_list]; simp [flatR, gapR, bodyR]
theorem gap_32 {r : RowL} (h : ∀ p ∈ r, Wd p) : ∀ c ∈ gapR r, c = 32 := by
  cases r with
  | nil => exact fun c hc => absurd hc List.not_mem_nil
  | cons p r => exact (h p (.head _)).g2
theorem flat_chars {r : RowL} (h : ∀ p ∈ r, Wd p) : ∀ c ∈ flatR r, c = 32 ∨ (97 ≤ c ∧ c ≤ 122) := by
  intro c hc
  unfold flatR at hc
  rw [List.mem_flatMap] at hc
  obtain ⟨p, hp, hc⟩ := hc
  rcases List.mem_append.mp hc with hc | hc
  · exact .inl ((h p hp).g2 c hc)
  · exact .inr ((h p hp).w2 c hc)
theorem body_sub {r : RowL} : ∀ c ∈ bodyR r, c ∈ flatR r := by
  cases r with
  | nil => exact fun c hc => hc
  | cons p r =>
    intro c hc
    unfold bodyR at hc
    rw [show flatR (p :: r) = (p.1.cps.toList ++ p.2.cps.toList) ++ flatR r from rfl]
    simp only [List.mem_append] at hc ⊢
    rcases hc with h | h <;> simp [h]
theorem body_head {r : RowL} (hr : r ≠ []) (h : ∀ p ∈ r, Wd p) : bodyR r ≠ [] ∧ ∀ b, (bodyR r).head? = some b → 97 ≤ b ∧ b ≤ 122 := by
  cases r with
  | nil => exact absurd rfl hr
  | cons p r =>
    have hw := h p (.head _)
    show p.2.cps.toList ++ flatR r ≠ [] ∧ ∀ b, (p.2.cps.toList ++ flatR r).head? = some b → 97 ≤ b ∧ b ≤ 122
    cases e : p.2.cps.toList with
    | nil => exact absurd e hw.w0
    | cons c t =>
      refine ⟨by simp, fun b hb => ?_⟩
      rw [List.cons_append, List.head?_cons] at hb
      cases hb
      exact hw.w2 _ (by rw [e]; exact .head _)
theorem flat_last : ∀ {r : RowL}, (∀ p ∈ r, Wd p) → ∀ b, (flatR r).getLast? = some b → 97 ≤ b ∧ b ≤ 122
  | [], _, b, hb => by cases hb
  | p :: r, h, b, hb => by
    have hw := h p (.head _)
    rw [show flatR (p :: r) = (p.1.cps.toList ++ p.2.cps.toList) ++ flatR r from rfl, List.getLast?_append] at hb
    cases hr : (flatR r).getLast? with
    | some c =>
      rw [hr] at hb
      cases hb
      exact flat_last (fun q hq => h q (.tail _ hq)) _ hr
    | none =>
      rw [hr, Option.none_or, List.getLast?_append] at hb
      cases hq : p.2.cps.toList.getLast? with
      | none => rw [List.getLast?_eq_none_iff] at hq; exact absurd hq hw.w0
      | some c =>
        rw [hq] at hb
        cases hb
        exact hw.w2 _ (List.mem_of_getLast? hq)
theorem body_last {r : RowL} (hr : r ≠ []) (h : ∀ p ∈ r, Wd p) : ∀ b, (bodyR r).getLast? = some b → 97 ≤ b ∧ b ≤ 122 := by
  cases r with
  | nil => exact absurd rfl hr
  | cons p r =>
    have hw := h p (.head _)
    intro b hb
    unfold bodyR at hb
    rw [List.getLast?_append] at hb
    cases hr : (flatR r).getLast? with
    | some c =>
      rw [hr] at hb
      cases hb
      exact flat_last (fun q hq => h q (.tail _ hq)) _ hr
    | none =>
      rw [hr, Option.none_or] at hb
      exact hw.w2 _ (List.mem_of_getLast? hb)
noncomputable def Rws (T : List RowL) : Prop := ∀ r ∈ T, r ≠ [] ∧ ∀ p ∈ r, Wd p
theorem txt_free {r : RowL} (h : ∀ p ∈ r, Wd p) : 10 ∉ (txt r).cps.toList := by
  rw [txt_list]
  intro hm
  rcases flat_chars h 10 hm with h | h <;> omega
theorem strip_free {r : RowL} (h : ∀ p ∈ r, Wd p) : 10 ∉ (stripR r).cps.toList := by
  rw [stripR_list]
  intro hm
  rcases flat_chars h 10 (body_sub 10 hm) with h | h <;> omega
theorem map_free {T : List RowL} (h : ∀ r ∈ T, ∀ p ∈ r, Wd p) : ∀ s ∈ T.map txt, 10 ∉ s.cps.toList := fun s hs => by
  obtain ⟨r, hr, rfl⟩ := List.mem_map.mp hs
  exact txt_free (h r hr)
theorem join_gap (y : PySem.Str) {r : RowL} (hr : r ≠ []) (L : List PySem.Str) : (PySem.Str.join y (txt r :: L)).cps.toList = gapR r ++ (PySem.Str.join y (stripR r :: L)).cps.toList := by
  cases L with
  | nil =>
    show (txt r).cps.toList = gapR r ++ (stripR r).cps.toList
    rw [stripR_list, txt_body hr]
  | cons q L => rw [join_cons2, join_cons2, txt_body hr, stripR_list, List.append_assoc]
theorem join_head (y : PySem.Str) {r : RowL} (hr : r ≠ []) (h : ∀ p ∈ r, Wd p) (L : List PySem.Str) : (PySem.Str.join y (stripR r :: L)).cps.toList ≠ [] ∧ ∀ b, (PySem.Str.join y (stripR r :: L)).cps.toList.head? = some b → 97 ≤ b ∧ b ≤ 122 := by
  obtain ⟨h1, h2⟩ := body_head hr h
  cases L with
  | nil =>
    show (stripR r).cps.toList ≠ [] ∧ _
    rw [stripR_list]
    exact ⟨h1, fun b hb => h2 b (by rw [← stripR_list]; exact hb)⟩
  | cons q L =>
    rw [join_cons2, stripR_list]
    cases e : bodyR r with
    | nil => exact absurd e h1
    | cons c t =>
      refine ⟨by simp, fun b hb => h2 b ?_⟩
      rw [e]
      simpa using hb
theorem join_last (y : PySem.Str) : ∀ (s : PySem.Str) (T : List RowL), Rws T → s.cps.toList ≠ [] → (∀ b, s.cps.toList.getLast? = some b → 97 ≤ b ∧ b ≤ 122) → (PySem.Str.join y (s :: T.map txt)).cps.toList ≠ [] ∧ ∀ b, (PySem.Str.join y (s :: T.map txt)).cps.toList.getLast? = some b → 97 ≤ b ∧ b ≤ 122
  | s, [], _, h0, h1 => ⟨h0, h1⟩
  | s, r :: T, hT, h0, h1 => by
    obtain ⟨hr, hw⟩ := hT r (.head _)
    obtain ⟨b1, _⟩ := body_head hr hw
    have tne : (txt r).cps.toList ≠ [] := by rw [txt_body hr]; simp [b1]
    obtain ⟨i0, i1⟩ := join_last y (txt r) T (fun q hq => hT q (.tail _ hq)) tne (by rw [txt_list]; exact flat_last hw)
    rw [List.map_cons, join_cons2]
    refine ⟨by simp [h0], fun b hb => i1 b ?_⟩
    rw [List.getLast?_append, List.getLast?_append] at hb
    cases e : (PySem.Str.join y (txt r :: List.map txt T)).cps.toList.getLast? with
    | none => rw [List.getLast?_eq_none_iff] at e; exact absurd e i0
    | some c => rw [e] at hb; simpa using hb
theorem str_of {a b : PySem.Str} (h : a.cps.toList = b.cps.toList) : a = b := PySem.Str.ext' (Array.toList_inj.mp h)
theorem strip_rows {goes : Nat → Bool} {y x : PySem.Str} {r : RowL} {T : List RowL} {A C : List Nat} (hT : Rws (r :: T)) (hl : ∀ c, 97 ≤ c → c ≤ 122 → goes c = false) (h32 : goes 32 = true) (hA : ∀ c ∈ A, goes c = true) (hC : ∀ c ∈ C, goes c = true)
    (hx : x.cps.toList = A ++ ((PySem.Str.join y (txt r :: T.map txt)).cps.toList ++ C)) : Txt.stripBy goes true true x = PySem.Str.join y (stripR r :: T.map txt) := by
  obtain ⟨hr, hw⟩ := hT r (.head _)
  obtain ⟨n0, n1⟩ := join_head y hr hw (T.map txt)
  obtain ⟨b0, _⟩ := body_head hr hw
  obtain ⟨_, n2⟩ := join_last y (stripR r) T (fun q hq => hT q (.tail _ hq)) (by rw [stripR_list]; exact b0) (by rw [stripR_list]; exact body_last hr hw)
  refine str_of (strip_mid (A := A ++ gapR r) (C := C) ?_ ?_ hC n0 (fun b hb => hl b (n1 b hb).1 (n1 b hb).2) fun b hb => hl b (n2 b hb).1 (n2 b hb).2)
  · rw [hx, join_gap y hr]; simp
  · intro a ha
    rcases List.mem_append.mp ha with ha | ha
    · exact hA a ha
    · rw [gap_32 hw a ha]; exact h32
theorem tjoin' (z : PySem.Str) (l : List PySem.Str) : Txt.join z l = PySem.Str.join z l := StrLaws.glued_eq_join ..
structure Sep (e ws : PySem.Str) : Prop where
  eq : e.cps.toList = 10 :: (ws.cps.toList ++ [10])
  ws : ∀ c ∈ ws.cps.toList, c = 32 ∨ c = 9
  kind : PySem.Builtin.Str.strKind e = 1
  len : e.length ≤ 10
theorem Sep.sp {e ws : PySem.Str} (S : Sep e ws) : ∀ c ∈ e.cps.toList, Unicode.isSpace c = true := by
  rw [S.eq]
  intro c hc
  rcases List.mem_cons.mp hc with rfl | hc
  · exact sp10
  · rcases List.mem_append.mp hc with hc | hc
    · rcases S.ws c hc with rfl | rfl
      · exact sp32
      · exact sp9
    · rw [List.mem_singleton.mp hc]; exact sp10
noncomputable abbrev nl : PySem.Str := PySem.Str.ofString "\n"
theorem nl_list : nl.cps.toList = [10] := by decide
theorem nl_eq : nl = ⟨#[10]⟩ := by decide
theorem split_nl {L : List PySem.Str} (hL : L ≠ []) (hf : ∀ p ∈ L, 10 ∉ p.cps.toList) : Txt.split (PySem.Str.join nl L) nl = L := split_join nl_list (by decide +kernel) hL hf
theorem split_sep {e ws : PySem.Str} (S : Sep e ws) {L : List PySem.Str} (hL : L ≠ []) (hf : ∀ p ∈ L, 10 ∉ p.cps.toList) : Txt.split (PySem.Str.join e L) e = L := split_join S.eq S.kind hL hf
theorem join_ne (y : PySem.Str) (a : PySem.Str) {L : List PySem.Str} (h : L ≠ []) : (PySem.Str.join y (a :: L)).cps.toList = a.cps.toList ++ (y.cps.toList ++ (PySem.Str.join y L).cps.toList) := by
  cases L with
  | nil => exact absurd rfl h
  | cons q r => exact join_cons2 y a q r
theorem lines_rows {e ws : PySem.Str} (S : Sep e ws) {r : RowL} {T : List RowL} (hT : Rws (r :: T)) (hne : T ≠ []) :
    Txt.split (PySem.Str.join e (stripR r :: T.map txt)) nl = stripR r :: ws :: Txt.split (PySem.Str.join e (T.map txt)) nl := by
  have hM : Txt.split (PySem.Str.join e (T.map txt)) nl ≠ [] := by
    have := split_pos (PySem.Str.join e (T.map txt)) nl
    intro h
    rw [h] at this
    simp at this
  have hfree : ∀ p ∈ Txt.split (PySem.Str.join e (T.map txt)) nl, 10 ∉ p.cps.toList := by
    rw [nl_eq]; exact StrLaws.split_free _ 10
  have hj : PySem.Str.join nl (Txt.split (PySem.Str.join e (T.map txt)) nl) = PySem.Str.join e (T.map txt) := StrLaws.join_split _ _
  have key : PySem.Str.join e (stripR r :: T.map txt) = PySem.Str.join nl (stripR r :: ws :: Txt.split (PySem.Str.join e (T.map txt)) nl) := by
    refine str_of ?_
    rw [join_ne e _ (by simpa using hne), join_cons2, join_ne nl _ hM, hj, nl_list, S.eq]
    simp
  rw [key, split_nl (by simp) fun p hp => ?_]
  rcases List.mem_cons.mp hp with rfl | hp
  · exact strip_free (hT r (.head _)).2
  · rcases List.mem_cons.mp hp with rfl | hp
    · intro hm
      rcases S.ws 10 hm with h | h <;> cases h
    · exact hfree p hp
theorem rstrip_id {x : PySem.Str} (h : ∀ b, x.cps.toList.getLast? = some b → Unicode.isSpace b = false) : Txt.rstrip x = x := by
  have hn : x.cps.toList.length = x.length := by simp [PySem.Str.length]
  unfold Txt.rstrip
  refine str_of ?_
  rw [PyProof.Rows.stripBy_eq, StrLaws.strSub_toList]
  have e1 : stripLo Unicode.isSpace false x = 0 := rfl
  have e2 : stripHi Unicode.isSpace true x 0 = x.length := by
    unfold stripHi
    rw [if_pos rfl, List.drop_zero]
    have : x.cps.toList.reverse.takeWhile Unicode.isSpace = [] := takeWhile_app [] x.cps.toList.reverse (fun _ q => absurd q List.not_mem_nil) fun b hb => h b (by rw [← List.head?_reverse]; exact hb)
    rw [this]; rfl
  rw [e1, e2, List.drop_zero, Nat.sub_zero, List.take_of_length_le (by omega)]
theorem rstrip_white {x : PySem.Str} (h : ∀ c ∈ x.cps.toList, Unicode.isSpace c = true) : (Txt.rstrip x).length = 0 := by
  have hn : x.cps.toList.length = x.length := by simp [PySem.Str.length]
  have key : (Txt.rstrip x).cps.toList = [] := by
    unfold Txt.rstrip
    rw [PyProof.Rows.stripBy_eq, StrLaws.strSub_toList]
    have e1 : stripLo Unicode.isSpace false x = 0 := rfl
    have e2 : stripHi Unicode.isSpace true x 0 = 0 := by
      unfold stripHi
      rw [if_pos rfl, List.drop_zero]
      have : x.cps.toList.reverse.takeWhile Unicode.isSpace = x.cps.toList.reverse := by
        have := takeWhile_app (goes := Unicode.isSpace) x.cps.toList.reverse [] (fun a ha => h a (List.mem_reverse.mp ha)) (fun b hb => by cases hb)
        rwa [List.append_nil] at this
      rw [this, List.length_reverse]; omega
    rw [e1, e2]; simp
  show (Txt.rstrip x).cps.size = 0
  rw [← Array.length_toList, key]; rfl
end Mine
end
section
open PySem PySem.W PyProof.Rows PySem.Calls
set_option maxHeartbeats 1500000
namespace Mine
section
local macro_rules | `(tactic| k_inst) => `(tactic| (refine' inst_acc ?N ?h1 ?h2; (case N => k_asm); (case h1 | h2 => k_mem)))
local macro_rules | `(tactic| walk_at "getMethod ref") => `(tactic| (k_here; k_dflt (refine' method_acc ?k1 ?k2 ?k3 ?k4 ?k5 ?k6 ?k7 ?k8 ?k9 ?_; (case k1 | k2 => k_asm); (case k3 => k_inst); (case k4 | k5 | k6 | k7 => k_is); (case k8 => first | exact .inl rfl | exact .inr rfl); (case k9 => k_get); k_whole)))
local macro_rules | `(tactic| walk_at "call builtin:list.append") => `(tactic| (k_here; (with_reducible show wpAny _ _ (call (Value.builtin _) [Value.ref _, _]) _ _ _); k_dflt (refine' append_acc ?k1 ?k2 ?k3 ?k4 ?k5 ?k6 ?_ ?z; (case k1 | k2 | k3 => k_asm); (case k6 => k_upd); (case k4 => k_mem); (case k5 => k_is); (case z => first | size_fits | (rw [sizeLine_eq]; omega)); k_whole); intro h' F' N'; (try k_sweep)))
local macro_rules | `(tactic| ktr_enter) => `(tactic| (refine' enter_def ?k1 ?k2 ?k3 ?k6 ?k7 ?k8 ?k9 ?kB ?_ ?c2 ?c3 ?c4 ?c5; (case k1 | k2 | k3 => k_asm); (case k6 | k7 => k_is); (case k8 => first | assumption | (simp only [recursionLimit]; omega)); (case k9 => first | exact BindsTo.of_eq rfl | exact binds_K (Frag.In.keeps (by k_asm) (Own.keep (by k_asm))) rfl (by k_is) rfl rfl rfl); (case c5 => decide); (case kB => exact locs rfl); (case c2 | c3 | c4 => exact rfl); k_whole; intro g' L' h' bg' F' N' X' T' hid' lt'; (try k_lt lt'); (try dsimp only); (try k_fold)))

local macro_rules | `(tactic| ktr_rel) => `(tactic| (repeat (first | exact sub_nil | (refine sub_cons (by k_mem) ?_))))
local macro_rules | `(tactic| ktr_unf) => `(tactic| exact Own.sub (own_of (by assumption) (by assumption) (by assumption)) (by ktr_rel))

local macro_rules | `(tactic| ktr_room) => `(tactic| (refine' enter_super ?k1 ?k2 ?k3 ?k6 ?k7 ?k8 ?k9 ?kB ?_ ?c2 ?c3 ?c4 ?c5; (case k1 | k2 | k3 => k_asm); (case k6 | k7 => k_is); (case k8 => first | assumption | (simp only [recursionLimit]; omega)); (case k9 => first | exact BindsTo.of_eq rfl | exact binds_K (Frag.In.keeps (by k_asm) (Own.keep (by k_asm))) rfl (by k_is) rfl rfl rfl); (case c5 => decide); (case kB => exact locs rfl); (case c2 | c3 | c4 => exact rfl); k_whole; intro g' L' h' bg' F' N' X' T' hid' lt'; (try k_lt lt'); (try dsimp only); (try k_fold)))
local macro_rules | `(tactic| walk_at "getMethod ref") => `(tactic| (k_here; k_dflt (first
  | (refine' super_wd ?k1 ?k2 ?k3 ?k4 ?k5 ?k6 ?k7 ?k8 ?k9 ?kn ?_; (case k1 | k2 | k3 => k_asm); (case k4 => k_mem); (case k5 => k_inst); (case k6 => k_is); (case k7 => ks_is); (case k8 => first | exact .inl ⟨rfl, rfl⟩ | exact .inr ⟨rfl, rfl⟩); (case k9 => k_is); (case kn => decide); k_whole; intro q' h' F' N' l1; (try k_lt l1))
  | (refine' super_md ?k1 ?k2 ?k3 ?k4 ?k5 ?k6 ?k7 ?k9 ?kn ?_; (case k1 | k2 | k3 => k_asm); (case k4 => k_mem); (case k5 => k_inst); (case k6 => k_is); (case k7 => ks_is); (case k9 => k_is); (case kn => decide); k_whole; intro q' h' F' N' l1; (try k_lt l1)))))
local macro_rules | `(tactic| walk_at "callWith ref") => `(tactic| (k_here; k_dflt (refine' callWith_bound ?k1 ?k2 ?k3 ?_; (case k1 => k_asm); (case k2 => k_mem); (case k3 => first | exact .inl rfl | exact .inr rfl); k_whole; try dsimp only [List.nil_append, List.cons_append])))
local macro_rules | `(tactic| walk_at "call ref") => `(tactic| (k_here; k_dflt (first
  | (refine' call_len ?k1 ?k2 ?k3 ?_; (case k1 => k_asm); (case k2 | k3 => k_mem); k_whole)
  | (refine' call_pop ?k1 ?k2 ?k3 ?k4 ?k5 ?k6 ?k7 ?k8 ?k9 ?ka ?kb ?_; (case k1 | k2 | k3 => k_asm); (case k4 => k_mem); (case k5 => k_upd); (case k6 => k_mem); (case k7 | k8 => k_is); (case k9 => exact rfl); (case ka => k_is); (case kb => (rw [sizeLine_eq]; simp only [Array.size_push]; omega)); k_whole; intro h' F' N'; (try k_sweep))
  | (refine' call_init ?k1 ?k2 ?k3 ?k4 ?_; (case k1 | k2 => k_asm); (case k3 => k_mem); (case k4 => k_upd); k_whole; intro h' F' N'; (try k_sweep)))))
local macro_rules | `(tactic| tb_start) => `(tactic| first | (refine' Ext.head ?a; (case a => k_all)) | (refine' Ext.tail ?a ?b; (case a => k_ne); (case b => tb_start)))
local macro_rules | `(tactic| tb_rel) => `(tactic| first | exact Take.nil | (refine' Take.cons ?a ?b; (case a => tb_start); (case b => tb_rel)))
local macro_rules | `(tactic| ktr_units) => `(tactic| first | assumption | (refine' Mine.up1 ?hx ?ex; (case hx => assumption); (case ex => exact rfl)) | (refine' Mine.up0 ?hx ?ex; (case hx => assumption); (case ex => exact rfl)) | (refine' Mine.up2 ?hx ?ex; (case hx => assumption); (case ex => exact rfl)) | (refine' Mine.up3 ?hx ?ex; (case hx => assumption); (case ex => exact rfl)) | omega | ((try dsimp only); omega) | ((simp only [depth_in1, depth_deeper, units_in1, units_deeper, cLine]); omega) | ((try rw [sizeLine_eq]); (try simp only [Array.size_push, Array.size_empty, List.size_toArray, List.length_cons, List.length_nil]); omega))

local macro_rules | `(tactic| walk_at "wpAt") => `(tactic| (first | with_reducible refine ks_wpAt_execs_cons ?_ | with_reducible refine ks_wpAt_Return_some ?_ | k_dflt (refine ks_wpAt_MethodCall ?_) | k_dflt (refine ks_wpAt_Expr_any ?_)))
local macro_rules | `(tactic| walk_at "setItem ref") => `(tactic| (k_here; k_dflt (refine' setslice_K ?k1 ?k2 ?k3 ?k4 ?k5 ?k6 ?k7 ?k8 ?k9 ?ka ?kb ?kc ?kd ?ke ?kf ?_; (case k1 | k2 | k3 => k_asm); (case k4 => k_upd); (case k5 => k_mem); (case k6 => exact (News.get (by k_asm) (by k_mem))); (case k7 => k_ne); (case k8 | k9 => kmk_part); (case ka | kb | kc => k_is); (case kd => (first | exact slice_clear _ _ | exact slice_cut _ _)); (case ke | kf => ktr_units); k_whole; intro h' F' N'; (try k_sweep))))
local macro_rules | `(tactic| walk_at "subscriptTail") => `(tactic| (k_here; k_dflt (refine' subslice_K ?k1 ?k2 ?k3 ?k4 ?k5 ?k8 ?k9 ?ka ?kb ?kc ?kd ?_ ?kz; (case k1 | k2 | k3 => k_asm); (case k4 | k5 => k_mem); (case k8 | k9 => kmk_part); (case ka | kb | kc => k_is); (case kd => ktr_units); (case kz => with_unfolding_all rfl); k_whole; intro D' h' F' N' l1; (try k_lt l1); (try rw [pick_cut] at N'); (try k_sweep))))
local macro_rules | `(tactic| walk_at "setAttr ref") => `(tactic| (k_here; k_dflt (refine' set_acc ?k1 ?k2 ?k3 ?k4 ?k5 ?k6 ?k7 ?k8 ?k9 ?ka ?kb ?kc ?kd ?ke ?_; (case k1 | k2 | k3 => k_asm); (case k4 => k_inst); (case k5 => exact rfl); (case k6 | k7 => k_is); (case k8 | k9 => exact rfl); (case ka => k_is); (case kb => exact rfl); (case kc => k_put); (case kd => k_upd); (case ke => exact Nat.le_of_ble_eq_true rfl); k_whole; intro h' F' N'; (try k_sweep))))
local macro_rules | `(tactic| walk_at "getAttr ref") => `(tactic| (k_here; k_dflt (refine' getown_acc ?k1 ?k2 ?k3 ?k4 ?k5 ?k6 ?k7 ?k8 ?k9 ?ka ?kb ?_; (case k1 | k2 => k_asm); (case k3 => k_inst); (case k4 | k5 | k6 | k7 | k8 | k9 => k_is); (case ka => k_get); (case kb => k_handed); k_whole)))
local macro_rules | `(tactic| k_ne) => `(tactic| (refine neN ?_; (try dsimp only); (first | exact Nat.ne_of_lt (by first | with_reducible assumption | with_reducible exact And.left (by assumption) | with_reducible exact And.right (by assumption) | with_reducible exact And.left (And.right (by assumption)) | with_reducible exact And.right (And.right (by assumption))) | exact Nat.ne_of_gt (by first | with_reducible assumption | with_reducible exact And.left (by assumption) | with_reducible exact And.right (by assumption) | with_reducible exact And.left (And.right (by assumption)) | with_reducible exact And.right (And.right (by assumption))) | with_reducible assumption | exact Ne.symm (by with_reducible assumption) | omega)))
variable {w : World} {mean : ExcName → Option Value} {mg mb : Str → Option Value} {b₀ : Heap} {dp un : Nat} {gd : Option (List Code)} {fs : List Env} {s : Shared} {R : Result → Shared → Prop}
section
theorem clear_C1 : True := by
  k_with_none
  w_top off
  trivial
theorem push_spec (q d : Nat) (items : Array Value) (n kt it e : Nat) (i : Int) (f p : Str) (t t' : Tok) (G : GW w mean mg mb b₀)
    (O : Own b₀ s.heap (accS w.params q d items n kt i it e)) (hdq : d < q)
    (hdp : dp < 900) (hun : un < 3000) (hz : items.size ≤ 100)
    (h : ∀ tp h' tk', Own b₀ h' [(q, accObj d (items.push (.ref tp)) (n + 1)), (d, dictOf [initEnt w.params kt i it] e), (tp, tupObj f p t t')] → Kp (accS w.params q d items n kt i it e) s.heap h' → s.heap.get? tp = none → R (.ok (.ret .none)) ⟨h', s.gens, s.drawn, tk', s.os⟩) :
    codeAny (model Challenge.rw_ph0143_01.row.prog w) (mkA dp un gd fs) (.call (.ref 143) ⟨[.ref q, .str f t, .str p t'], []⟩) R s := by
  obtain ⟨X, T⟩ := G
  revert X; k_fill; intro X
  k_dflt ktr_enter
  k_steps
  exact h _ _ _ (by ktr_unf) (kp_of (by assumption) (by assumption)) (fresh_of (by assumption) (by assumption) (by k_mem) (by k_all))

theorem part_count_spec (q d : Nat) (items : Array Value) (n kt it e : Nat) (i : Int) (G : GW w mean mg mb b₀)
    (O : Own b₀ s.heap (accS w.params q d items n kt i it e)) (hdq : d < q)
    (hdp : dp < 900) (hun : un < 3000) (hz : items.size ≤ 100)
    (h : ∀ h' tk' tk, Own b₀ h' (accS w.params q d items n kt i it e) → Kp (accS w.params q d items n kt i it e) s.heap h' → R (.ok (.ret (.int items.size tk))) ⟨h', s.gens, s.drawn, tk', s.os⟩) :
    codeAny (model Challenge.rw_ph0143_01.row.prog w) (mkA dp un gd fs) (.call (.ref 196) ⟨[.ref q], []⟩) R s := by
  obtain ⟨X, T⟩ := G
  revert X; k_fill; intro X
  k_dflt ktr_room
  k_steps
  exact h _ _ _ (by ktr_unf) (kp_of (by assumption) (by assumption))

variable {A : Around} {E : Value → Shared → Prop} {Q : Value → Shared → Prop} {g : Heap} {L : Addr} {m : Str → Option Value} {news rest : List (Addr × Obj)}
theorem use_push {q d : Nat} {items : Array Value} {n kt it e : Nat} {i : Int} {f p : Str} {t t' : Tok} (G : GW w mean mg mb b₀) (bg : ∀ b o, b₀.get? b = some o → g.get? b = some o) (F : Fr g L s.heap m) (N : News g L s.heap news)
    (tk : Take (accS w.params q d items n kt i it e) news rest) (hdq : d < q) (hdp : dp < 900) (hun : un < 3000) (hz : items.size ≤ 100)
    (h : ∀ tp h' tk', Fr g L h' m → News g L h' ((q, accObj d (items.push (.ref tp)) (n + 1)) :: (d, dictOf [initEnt w.params kt i it] e) :: (tp, tupObj f p t t') :: rest) → AllNe tp news → Q .none ⟨h', s.gens, s.drawn, tk', s.os⟩) :
    wpAny (model Challenge.rw_ph0143_01.row.prog w) (mkA dp un gd fs) (call (.ref 143) [.ref q, .str f t, .str p t']) Q E s :=
  wpAny_call (push_spec q d items n kt it e i f p t t' G (own_take bg F N tk) hdq hdp hun hz fun tp h' tk' O' K' hn =>
    have z := after F N tk K' O' (fun x hx => by
      rcases List.mem_cons.mp hx with rfl | hx
      · exact .inl ⟨_, .head _⟩
      · rcases List.mem_cons.mp hx with rfl | hx
        · exact .inl ⟨_, .tail _ (.head _)⟩
        · rcases List.mem_cons.mp hx with rfl | hx
          · exact .inr hn
          · cases hx)
    h tp h' tk' z.1 z.2 (allNe_of N hn))
theorem use_part_count {q d : Nat} {items : Array Value} {n kt it e : Nat} {i : Int} (G : GW w mean mg mb b₀) (bg : ∀ b o, b₀.get? b = some o → g.get? b = some o) (F : Fr g L s.heap m) (N : News g L s.heap news)
    (tk : Take (accS w.params q d items n kt i it e) news rest) (hdq : d < q) (hdp : dp < 900) (hun : un < 3000) (hz : items.size ≤ 100)
    (h : ∀ h' tk' tk, Fr g L h' m → News g L h' ((q, accObj d items n) :: (d, dictOf [initEnt w.params kt i it] e) :: rest) → Q (.int items.size tk) ⟨h', s.gens, s.drawn, tk', s.os⟩) :
    wpAny (model Challenge.rw_ph0143_01.row.prog w) (mkA dp un gd fs) (call (.ref 196) [.ref q]) Q E s :=
  wpAny_call (part_count_spec q d items n kt it e i G (own_take bg F N tk) hdq hdp hun hz fun h' tk' tk1 O' K' =>
    have z := after F N tk K' O' (fun x hx => .inl ⟨_, hx⟩)
    h h' tk' tk1 z.1 z.2)
end
section
theorem clear_C2 : True := by
  k_with_none
  w_top off
  trivial
local macro_rules | `(tactic| walk_at "call ref") => `(tactic| (k_here; (with_reducible show wpAny _ _ (call (Value.ref 196) _ _) _ _ _); k_dflt (refine' use_part_count ?G ?b ?F ?N ?t ?c1 ?c2 ?c3 ?c4 ?_; (case G | b => assumption); (case F | N => k_asm); (case t => tb_rel); (case c1 | c2 | c3 | c4 => ktr_units); k_whole; intro h' tk' tk1 F' N'; (try k_sweep))))
theorem pop_nil (q d : Nat) (n kt it e : Nat) (i : Int) (G : GW w mean mg mb b₀)
    (O : Own b₀ s.heap (accS w.params q d #[] n kt i it e)) (hdq : d < q)
    (hdp : dp < 890) (hun : un < 2900)
    (h : ∀ tp t t' h' tk', Own b₀ h' [(q, accObj d #[] n), (d, dictOf [initEnt w.params kt i it] e), (tp, tupObj (Str.ofString "") (Str.ofString "") t t')] → Kp (accS w.params q d #[] n kt i it e) s.heap h' → s.heap.get? tp = none → R (.ok (.ret (.ref tp))) ⟨h', s.gens, s.drawn, tk', s.os⟩) :
    codeAny (model Challenge.rw_ph0143_01.row.prog w) (mkA dp un gd fs) (.call (.ref 159) ⟨[.ref q], []⟩) R s := by
  have X := G.X
  have T := G.T
  revert X; k_fill; intro X
  k_dflt ktr_room
  k_steps
  exact h _ _ _ _ _ (by ktr_unf) (kp_of (by assumption) (by assumption)) (fresh_of (by assumption) (by assumption) (by k_mem) (by k_all))

theorem pop_last (q d : Nat) (items : Array Value) (v : Value) (n kt it e : Nat) (i : Int) (G : GW w mean mg mb b₀)
    (O : Own b₀ s.heap (accS w.params q d (items.push v) n kt i it e)) (hdq : d < q)
    (hdp : dp < 890) (hun : un < 2900) (hz : (items.push v).size ≤ 100)
    (h : ∀ h' tk', Own b₀ h' (accS w.params q d items (n + 1) kt i it e) → Kp (accS w.params q d (items.push v) n kt i it e) s.heap h' → R (.ok (.ret v)) ⟨h', s.gens, s.drawn, tk', s.os⟩) :
    codeAny (model Challenge.rw_ph0143_01.row.prog w) (mkA dp un gd fs) (.call (.ref 159) ⟨[.ref q], []⟩) R s := by
  have X := G.X
  have T := G.T
  have hz' : items.size ≤ 99 := by rw [Array.size_push] at hz; omega
  revert X; k_fill; intro X
  k_dflt ktr_room
  k_steps
  · exfalso
    have hp := Array.size_push (xs := items) v
    omega
  · exact h _ _ (by ktr_unf) (kp_of (by assumption) (by assumption))
end
section
theorem clear_C3 : True := by
  k_with_none
  w_top off
  trivial
theorem init_spec (q d : Nat) (n : Nat) (i : Int) (it : Tok) (G : GW w mean mg mb b₀)
    (O : Own b₀ s.heap [(q, accObj d #[] n), (d, dictOf [] 0)]) (hdq : d < q)
    (hdp : dp < 890) (hun : un < 2900)
    (h : ∀ kt h' tk', Own b₀ h' (accS w.params q d #[] n kt i it 1) → Kp [(q, accObj d #[] n), (d, dictOf [] 0)] s.heap h' → R (.ok (.ret .none)) ⟨h', s.gens, s.drawn, tk', s.os⟩) :
    codeAny (model Challenge.rw_ph0143_01.row.prog w) (mkA dp un gd fs) (.call (.ref 136) ⟨[.ref q, .int i it], []⟩) R s := by
  have X := G.X
  have T := G.T
  revert X; k_fill; intro X
  k_dflt ktr_room
  k_steps
  exact h _ _ _ (by ktr_unf) (kp_of (by assumption) (by assumption))
end
section
theorem clear_C4 : True := by
  k_with_none
  w_top off
  trivial
theorem reset_none (q d : Nat) (items : Array Value) (n kt it : Nat) (i : Int) (G : GW w mean mg mb b₀)
    (O : Own b₀ s.heap (accS w.params q d items n kt i it 1)) (hdq : d < q)
    (hdp : dp < 890) (hun : un < 2900) (hz : items.size ≤ 100)
    (h : ∀ n' it' h' tk', Own b₀ h' (accS w.params q d #[] n' kt 0 it' 1) → Kp (accS w.params q d items n kt i it 1) s.heap h' → R (.ok (.ret .none)) ⟨h', s.gens, s.drawn, tk', s.os⟩) :
    codeAny (model Challenge.rw_ph0143_01.row.prog w) (mkA dp un gd fs) (.call (.ref 181) ⟨[.ref q], []⟩) R s := by
  have X := G.X
  have T := G.T
  revert X; k_fill; intro X
  k_dflt ktr_enter
  k_steps

  exact h _ _ _ _ (by ktr_unf) (kp_of (by assumption) (by assumption))
theorem reset_list (q d l : Nat) (items new : Array Value) (n kt it n2 : Nat) (i : Int) (G : GW w mean mg mb b₀)
    (O : Own b₀ s.heap ((l, listOf new n2) :: accS w.params q d items n kt i it 1)) (hdq : d < q) (hql : q ≠ l) (hdl : d ≠ l)
    (hdp : dp < 890) (hun : un < 2900) (hz : items.size ≤ 100) (hz2 : new.size ≤ 100)
    (h : ∀ n' it' h' tk', Own b₀ h' ((l, listOf new n2) :: accS w.params q d new n' kt 0 it' 1) → Kp ((l, listOf new n2) :: accS w.params q d items n kt i it 1) s.heap h' → R (.ok (.ret .none)) ⟨h', s.gens, s.drawn, tk', s.os⟩) :
    codeAny (model Challenge.rw_ph0143_01.row.prog w) (mkA dp un gd fs) (.call (.ref 181) ⟨[.ref q, .ref l], []⟩) R s := by
  have X := G.X
  have T := G.T
  revert X; k_fill; intro X
  k_dflt ktr_enter
  k_steps

  exact h _ _ _ _ (by ktr_unf) (kp_of (by assumption) (by assumption))
theorem pop_from_spec (q d : Nat) (items : Array Value) (v : Value) (n kt it : Nat) (i : Int) (tk : Tok) (G : GW w mean mg mb b₀)
    (O : Own b₀ s.heap (accS w.params q d (items.push v) n kt i it 1)) (hdq : d < q)
    (hdp : dp < 890) (hun : un < 2900) (hz : (items.push v).size ≤ 100)
    (h : ∀ l n' h' tk', Own b₀ h' ((l, listOf #[v] 0) :: accS w.params q d items n' kt i it 1) → Kp (accS w.params q d (items.push v) n kt i it 1) s.heap h' → s.heap.get? l = none → R (.ok (.ret (.ref l))) ⟨h', s.gens, s.drawn, tk', s.os⟩) :
    codeAny (model Challenge.rw_ph0143_01.row.prog w) (mkA dp un gd fs) (.call (.ref 151) ⟨[.ref q, .int items.size tk], []⟩) R s := by
  have X := G.X
  have T := G.T
  have hz' : items.size ≤ 99 := by rw [Array.size_push] at hz; omega
  revert X; k_fill; intro X
  k_dflt ktr_enter
  k_steps

  exact h _ _ _ _ (by ktr_unf) (kp_of (by assumption) (by assumption)) (fresh_of (by assumption) (by assumption) (by k_mem) (by k_all))
end
section
theorem clear_C5 : True := by
  k_with_none
  w_top off
  trivial
theorem len_spec (q d : Nat) (items : Array Value) (ps : List (Str × Str)) (tb : Array Value) (n kt it : Nat) (i : Int) (G : GW w mean mg mb b₀) (gb : AllBare s.gens)
    (O : Own b₀ s.heap (accT w.params q d items n kt i it tb)) (hT : TF s.heap items ps) (htb : TabOk posLen tb) (hdq : d < q) (hd0 : 200 < d)
    (hdp : dp < 890) (hun : un < 2900) (hz : items.size ≤ 100) (hps : Short ps) 
    (h : ∀ tb' h' (gs : BG) tk' tk, TabOk posLen tb' → Own b₀ h' (accT w.params q d items n kt i it tb') → Kp (accT w.params q d items n kt i it tb) s.heap h' → R (.ok (.ret (.int (i + lenP ps) tk))) ⟨h', gs.1, s.drawn, tk', s.os⟩) :
    codeAny (model Challenge.rw_ph0143_01.row.prog w) (mkA dp un gd fs) (.call (.ref 166) ⟨[.ref q], []⟩) R s := by
  have X := G.X
  have T := G.T
  revert X; k_fill; intro X
  k_dflt ktr_enter
  k_steps
  rename_i F' N' _ _
  rename Fr _ _ _ _ => F1
  rename News _ _ _ _ => N1
  have hTg : TF _ items ps := (hT.kp O (by simp [accObj, dictOf, tabObj]) (by assumption)).keeps F1.keep
  refine' genexp_K (val := fun p y => ∃ t, y = .int ((p.1.length : Int) + (p.2.length : Int)) t) (c := 165) (P := 161) F1 N1 ?X ?T ?gb rfl ?hx ?hd ?Cd rfl ?tk htb hTg ?hsub ?hf ?hev ?helt ?_ rfl rfl rfl ?hcell rfl rfl rfl ?hab rfl ?hroom ?hs
  (case X => assumption)
  (case gb => first | assumption | exact Subtype.property _)
  (case T => assumption)
  (case hx => k_mem)
  (case hd => k_mem)
  (case Cd => exact codeHd_of_K (c := 165) (P := 161) (by assumption) (by kernel_rfl))
  (case tk => tb_rel)
  (case hsub => k_is)
  (case hf => k_is)
  (case hcell => decide)
  (case hab => decide)
  (case hs => exact fun _ => rfl)
  (case hev => intro Q hq; refine' ld ?k1 ?k2 hq; (case k1 => exact F1); (case k2 => exact rfl))
  (case hroom => simp only [Around.deeper, recursionLimit]; omega)
  (case helt =>
    intro A' E' Cl cv f r t t' u m₂ hA hD hU hm F2
    exact elt_len F2 (by assumption) (by assumption) (by k_is) rfl rfl (Nat.le_trans (hps.2 _ hm).1 (by decide)) (Nat.le_trans (hps.2 _ hm).2 (by decide)) rfl rfl rfl rfl rfl rfl)
  intro a h2 gs2 tk2 tb2 htb2 F2 N2 low2 Gn2
  clear F1 N1
  dsimp only
  k_steps
  refine' sum_K F2 N2 low2 Gn2 ?gb ?htk (fun p y z => z) ?_
  (case gb => first | assumption | exact Subtype.property _)
  (case htk => first | omega | (dsimp only; omega))
  intro h3 gs3 tk3 t3 F3 N3
  clear F2 N2

  exact h _ _ _ _ _ htb2 (by ktr_unf) (kp_of (by assumption) F3)
noncomputable abbrev accR (P : Params) (q d : Nat) (items : Array Value) (n kt : Nat) (i : Int) (it : Nat) (tb : Array Value) : List (Addr × Obj) := [(q, accObj d items n), (d, dictOf [initEnt P kt i it] 1), (168, tabObj tb)]
noncomputable abbrev posStr : Pos := { line := 115, col := 32, endLine := 115, endCol := 85 }
end
section
theorem clear_C6 : True := by
  k_with_none
  w_top off
  trivial
theorem str_spec (q d : Nat) (items : Array Value) (ps : List (Str × Str)) (tb : Array Value) (n kt it : Nat) (i : Int) (G : GW w mean mg mb b₀) (gb : AllBare s.gens)
    (O : Own b₀ s.heap (accR w.params q d items n kt i it tb)) (hT : TF s.heap items ps) (htb : TabOk posStr tb) (hdq : d < q) (hd0 : 200 < d)
    (hdp : dp < 890) (hun : un < 2900) (hz : items.size ≤ 100) (hps : Short ps) 
    (h : ∀ tb' h' (gs : BG) tk' tk, TabOk posStr tb' → Own b₀ h' (accR w.params q d items n kt i it tb') → Kp (accR w.params q d items n kt i it tb) s.heap h' → R (.ok (.ret (.str (txt ps) tk))) ⟨h', gs.1, s.drawn, tk', s.os⟩) :
    codeAny (model Challenge.rw_ph0143_01.row.prog w) (mkA dp un gd fs) (.call (.ref 173) ⟨[.ref q], []⟩) R s := by
  have X := G.X
  have T := G.T
  revert X; k_fill; intro X
  k_dflt ktr_enter
  k_steps
  rename_i F' N' _ _
  rename Fr _ _ _ _ => F1
  rename News _ _ _ _ => N1
  have hTg : TF _ items ps := (hT.kp O (by simp [accObj, dictOf, tabObj]) (by assumption)).keeps F1.keep
  refine' genexp_K (val := fun p y => ∃ t, y = .str (cat [p.1, p.2]) t) (c := 172) (P := 168) F1 N1 ?X ?T ?gb rfl ?hx ?hd ?Cd rfl ?tk htb hTg ?hsub ?hf ?hev ?helt ?_ rfl rfl rfl ?hcell rfl rfl rfl ?hab rfl ?hroom ?hs
  (case X => assumption)
  (case gb => first | assumption | exact Subtype.property _)
  (case T => assumption)
  (case hx => k_mem)
  (case hd => k_mem)
  (case Cd => exact codeHd_of_K (c := 172) (P := 168) (by assumption) (by kernel_rfl))
  (case tk => tb_rel)
  (case hsub => k_is)
  (case hf => k_is)
  (case hcell => decide)
  (case hab => decide)
  (case hs => exact fun _ => rfl)
  (case hev => intro Q hq; refine' ld ?k1 ?k2 hq; (case k1 => exact F1); (case k2 => exact rfl))
  (case hroom => simp only [Around.deeper, recursionLimit]; omega)
  (case helt =>
    intro A' E' Cl cv f r t t' u m₂ hA hD hU hm F2
    exact elt_join F2 (by assumption) (by assumption) (by k_is) rfl rfl (Nat.le_trans (hps.2 _ hm).1 (by decide)) (Nat.le_trans (hps.2 _ hm).2 (by decide)) rfl rfl rfl rfl rfl rfl rfl)
  intro a h2 gs2 tk2 tb2 htb2 F2 N2 low2 Gn2
  clear F1 N1
  dsimp only
  k_steps
  have hl : lenP ps ≤ 200 * ps.length := lenP_le hps.2
  have hn : ps.length ≤ 100 := hps.1
  refine' join_K F2 N2 low2 Gn2 ?gb ?htk (fun p y z => z) ?hl ?hn ?_
  (case gb => first | assumption | exact Subtype.property _)
  (case htk => first | omega | (dsimp only; omega))
  (case hl => omega)
  (case hn => omega)
  intro h3 gs3 tk3 t3 F3 N3
  clear F2 N2
  exact h _ _ _ _ _ htb2 (by ktr_unf) (kp_of (by assumption) F3)
end
section
theorem clear_C7 : True := by
  k_with_none
  w_top off
  trivial
variable {A : Around} {E : Value → Shared → Prop} {Q : Value → Shared → Prop} {g : Heap} {L : Addr} {m : Str → Option Value} {news rest : List (Addr × Obj)}
theorem use_len {q d : Nat} {items : Array Value} {ps : List (Str × Str)} {tb : Array Value} {n kt it : Nat} {i : Int} (G : GW w mean mg mb b₀) (gb : AllBare s.gens) (bg : ∀ b o, b₀.get? b = some o → g.get? b = some o) (F : Fr g L s.heap m) (N : News g L s.heap news)
    (tk : Take (accT w.params q d items n kt i it tb) news rest) (hT : TF s.heap items ps) (htb : TabOk posLen tb) (hdq : d < q) (hd0 : 200 < d) (hdp : dp < 890) (hun : un < 2900) (hz : items.size ≤ 100) (hps : Short ps)
    (h : ∀ tb' h' (gs : BG) tk' tk, TabOk posLen tb' → Fr g L h' m → News g L h' ((q, accObj d items n) :: (d, dictOf [initEnt w.params kt i it] 1) :: (161, tabObj tb') :: rest) → Q (.int (i + lenP ps) tk) ⟨h', gs.1, s.drawn, tk', s.os⟩) :
    wpAny (model Challenge.rw_ph0143_01.row.prog w) (mkA dp un gd fs) (call (.ref 166) [.ref q]) Q E s :=
  wpAny_call (len_spec q d items ps tb n kt it i G gb (own_take bg F N tk) hT htb hdq hd0 hdp hun hz hps fun tb' h' gs tk' tk1 htb' O' K' =>
    have z := after F N tk K' O' (fun x hx => by
      rcases List.mem_cons.mp hx with rfl | hx
      · exact .inl ⟨_, .head _⟩
      · rcases List.mem_cons.mp hx with rfl | hx
        · exact .inl ⟨_, .tail _ (.head _)⟩
        · rcases List.mem_cons.mp hx with rfl | hx
          · exact .inl ⟨_, .tail _ (.tail _ (.head _))⟩
          · cases hx)
    h tb' h' gs tk' tk1 htb' z.1 z.2)
theorem use_str {q d : Nat} {items : Array Value} {ps : List (Str × Str)} {tb : Array Value} {n kt it : Nat} {i : Int} (G : GW w mean mg mb b₀) (gb : AllBare s.gens) (bg : ∀ b o, b₀.get? b = some o → g.get? b = some o) (F : Fr g L s.heap m) (N : News g L s.heap news)
    (tk : Take (accR w.params q d items n kt i it tb) news rest) (hT : TF s.heap items ps) (htb : TabOk posStr tb) (hdq : d < q) (hd0 : 200 < d) (hdp : dp < 890) (hun : un < 2900) (hz : items.size ≤ 100) (hps : Short ps)
    (h : ∀ tb' h' (gs : BG) tk' tk, TabOk posStr tb' → Fr g L h' m → News g L h' ((q, accObj d items n) :: (d, dictOf [initEnt w.params kt i it] 1) :: (168, tabObj tb') :: rest) → Q (.str (txt ps) tk) ⟨h', gs.1, s.drawn, tk', s.os⟩) :
    wpAny (model Challenge.rw_ph0143_01.row.prog w) (mkA dp un gd fs) (call (.ref 173) [.ref q]) Q E s :=
  wpAny_call (str_spec q d items ps tb n kt it i G gb (own_take bg F N tk) hT htb hdq hd0 hdp hun hz hps fun tb' h' gs tk' tk1 htb' O' K' =>
    have z := after F N tk K' O' (fun x hx => by
      rcases List.mem_cons.mp hx with rfl | hx
      · exact .inl ⟨_, .head _⟩
      · rcases List.mem_cons.mp hx with rfl | hx
        · exact .inl ⟨_, .tail _ (.head _)⟩
        · rcases List.mem_cons.mp hx with rfl | hx
          · exact .inl ⟨_, .tail _ (.tail _ (.head _))⟩
          · cases hx)
    h tb' h' gs tk' tk1 htb' z.1 z.2)
end
section
local macro_rules | `(tactic| k_caught0) => `(tactic| (first | assumption | exact TF.keeps (by assumption) (Fr.keep (by k_asm)) | exact TF.one (News.get (by k_asm) (by k_mem)) | exact TF.push (TF.keeps (by assumption) (Fr.keep (by k_asm))) rfl (News.get (by k_asm) (by k_mem)) | exact TF.nil))
local macro_rules | `(tactic| walk_at "truthy ref") => `(tactic| (k_here; k_dflt (refine' truthy_L ?k1 ?k2 ?k3 ?k4 ?k5 ?k6 ?_; (case k1 | k2 => k_asm); (case k3 => k_inst); (case k4 | k5 | k6 => k_is); k_whole)))
local macro_rules | `(tactic| walk_at "call ref") => `(tactic| (k_here; (with_reducible show wpAny _ _ (call (Value.ref 166) _ _) _ _ _); k_dflt (refine' use_len ?G ?gb ?b ?F ?N ?t ?hT ?hb ?c1 ?c2 ?c3 ?c4 ?c5 ?c6 ?_; (case G => assumption); (case gb => first | assumption | exact Subtype.property _); (case b => assumption); (case F | N => k_asm); (case t => tb_rel); (case hT => k_caught0); (case hb => assumption); (case c1 | c2 | c3 | c4 | c5 => ktr_units); (case c6 => first | assumption | exact short_e); k_whole; intro tb' h' gs' tk' tk1 hb' F' N'; (try k_sweep); (try (dsimp only [W.LenBack]; refine ⟨⟨by omega, by omega⟩, ?_⟩)))))
local macro_rules | `(tactic| walk_at "call ref") => `(tactic| (k_here; (with_reducible show wpAny _ _ (call (Value.ref 173) _ _) _ _ _); k_dflt (refine' use_str ?G ?gb ?b ?F ?N ?t ?hT ?hb ?c1 ?c2 ?c3 ?c4 ?c5 ?c6 ?_; (case G => assumption); (case gb => first | assumption | exact Subtype.property _); (case b => assumption); (case F | N => k_asm); (case t => tb_rel); (case hT => k_caught0); (case hb => assumption); (case c1 | c2 | c3 | c4 | c5 => ktr_units); (case c6 => first | assumption | exact short_e); k_whole; intro tb' h' gs' tk' tk1 hb' F' N'; (try k_sweep); (try dsimp only [W.StrBack]))))
local macro_rules | `(tactic| walk_at "call type:str") => `(tactic| (k_here; (with_reducible show wpAny _ _ (call (Value.type "str") [Value.ref _]) _ _ _); k_dflt (refine' kso_call ?k1 ?k2 ?k3 ?k4 ?k5 ?_; (case k1 => ktr_units); (case k2 => k_in); (case k3 => k_inst); (case k4 | k5 => k_is); k_whole)))
section
theorem clear_C8 : True := by
  k_with_none
  w_top off
  trivial
theorem onlyws_ne (q d : Nat) (items : Array Value) (n kt it : Nat) (i : Int) (G : GW w mean mg mb b₀)
    (O : Own b₀ s.heap (accS w.params q d items n kt i it 1)) (hdq : d < q) (hd0 : 200 < d) (hi : i ≠ 0) 
    (hdp : dp < 880) (hun : un < 2800) 
    (h : ∀ h' tk', Own b₀ h' (accS w.params q d items n kt i it 1) → Kp (accS w.params q d items n kt i it 1) s.heap h' → R (.ok (.ret (.bool false))) ⟨h', s.gens, s.drawn, tk', s.os⟩) :
    codeAny (model Challenge.rw_ph0143_01.row.prog w) (mkA dp un gd fs) (.call (.ref 188) ⟨[.ref q], []⟩) R s := by
  have X := G.X
  have T := G.T
  revert X; k_fill; intro X
  k_dflt ktr_enter
  have e : (i == 0) = false := by simpa using hi
  k_steps
  dsimp only
  try rw [e]
  exact h _ _ (by ktr_unf) (kp_of (by assumption) (by assumption))
noncomputable abbrev accA (P : Params) (q d : Nat) (items : Array Value) (n kt : Nat) (i : Int) (it : Nat) (tb tr : Array Value) : List (Addr × Obj) := [(q, accObj d items n), (d, dictOf [initEnt P kt i it] 1), (161, tabObj tb), (168, tabObj tr)]
theorem onlyws_no (q d : Nat) (items : Array Value) (ps : List (Str × Str)) (tb tr : Array Value) (n kt it : Nat) (G : GW w mean mg mb b₀) (gb : AllBare s.gens)
    (O : Own b₀ s.heap (accA w.params q d items n kt 0 it tb tr)) (hT : TF s.heap items ps) (htb : TabOk posLen tb) (htr : TabOk posStr tr) (hdq : d < q) (hd0 : 200 < d)
    (hdp : dp < 880) (hun : un < 2800) (hz : items.size ≤ 100) (hps : Short ps) (hl : lenP ps > 0) (hw : Txt.isspace (txt ps) = false)
    (h : ∀ tb' tr' h' (gs : BG) tk', TabOk posLen tb' → TabOk posStr tr' → Own b₀ h' (accA w.params q d items n kt 0 it tb' tr') → Kp (accA w.params q d items n kt 0 it tb tr) s.heap h' → R (.ok (.ret (.bool false))) ⟨h', gs.1, s.drawn, tk', s.os⟩) :
    codeAny (model Challenge.rw_ph0143_01.row.prog w) (mkA dp un gd fs) (.call (.ref 188) ⟨[.ref q], []⟩) R s := by
  have X := G.X
  have T := G.T
  have hlb := lenP_le hps.2
  have hlb2 := hps.1
  revert X; k_fill; intro X
  k_dflt ktr_enter
  have hTg : TF _ items ps := (hT.kp O (by simp [accObj, dictOf, tabObj]) (by assumption))
  k_steps
  · rw [hw]
    exact h _ _ _ _ _ (by assumption) (by assumption) (by ktr_unf) (kp_of (by assumption) (by assumption))
  · exfalso; omega
end
section
theorem clear_C9 : True := by
  k_with_none
  w_top off
  trivial
variable {A : Around} {E : Value → Shared → Prop} {Q : Value → Shared → Prop} {g : Heap} {L : Addr} {m : Str → Option Value} {news rest : List (Addr × Obj)}
theorem use_newacc {i : Int} {it : Tok} (G : GW w mean mg mb b₀) (bg : ∀ b o, b₀.get? b = some o → g.get? b = some o) (F : Fr g L s.heap m) (N : News g L s.heap news)
    (hdp : dp < 880) (hun : un < 2800)
    (h : ∀ q d kt h' tk', Fr g L h' m → News g L h' ((q, accObj d #[] 0) :: (d, dictOf [initEnt w.params kt i it] 1) :: news) → (∀ p ∈ news, @LT.lt Nat _ p.1 d) → @LT.lt Nat _ d q → Q (.ref q) ⟨h', s.gens, s.drawn, tk', s.os⟩) :
    wpAny (model Challenge.rw_ph0143_01.row.prog w) (mkA dp un gd fs) (call (.ref 199) [.int i it]) Q E s := by
  have X := G.X
  revert X; k_fill; intro X
  have X1 : (hd.heap_1 w.params).In s.heap := X.keeps fun b o e => F.keep b o (bg b o e)
  refine wpAny_call (make_L (C := 199) (fI := 136) F N X1 (by kernel_rfl) (by k_is) (by k_is) fun x dx h' F' N' l1 l2 => ?_)
  have O : Own b₀ h' [(x, accObj dx #[] 0), (dx, dictOf [] 0)] := (own_of bg F' N').sub (by ktr_rel)
  refine init_spec (s := { s with heap := h' }) x dx 0 i it G O l2 ?_ ?_ fun kt h2 tk2 O2 K2 => ?_
  · show dp + 1 < 890
    omega
  · show un + 1 < 2900
    omega
  · have tk : Take [(x, accObj dx #[] 0), (dx, dictOf [] 0)] ((x, accNew 199 dx) :: (dx, emptyDict) :: news) news := .cons (.head (by
      intro p hp
      rcases List.mem_cons.mp hp with rfl | hp
      · exact Nat.ne_of_lt l2
      · exact Nat.ne_of_lt (Nat.lt_trans (l1 p hp) l2))) (.cons (.head fun p hp => Nat.ne_of_lt (l1 p hp)) .nil)
    obtain ⟨F2, N2⟩ := after F' N' tk K2 O2 (fun p hp => by
      rcases List.mem_cons.mp hp with rfl | hp
      · exact .inl ⟨_, .head _⟩
      · rcases List.mem_cons.mp hp with rfl | hp
        · exact .inl ⟨_, .tail _ (.head _)⟩
        · cases hp)
    exact ⟨rfl, h x dx kt h2 tk2 F2 N2 l1 l2⟩
end
section
local macro_rules | `(tactic| walk_at "call ref") => `(tactic| (k_here; (with_reducible show wpAny _ _ (call (Value.ref 199) _ _) _ _ _); k_dflt (refine' use_newacc ?G ?b ?F ?N ?c1 ?c2 ?_; (case G | b => assumption); (case F | N => k_asm); (case c1 | c2 => ktr_units); k_whole; intro q' d' kt' h' tk' F' N' l1 l2; (try k_lt l1); (try k_sweep))))
section
theorem clear_C10 : True := by
  k_with_none
  w_top off
  trivial
variable {A : Around} {E : Value → Shared → Prop} {Q : Value → Shared → Prop} {g : Heap} {L : Addr} {m : Str → Option Value} {news rest : List (Addr × Obj)}
local macro_rules | `(tactic| kat_tups) => `(tactic| (repeat' (first | exact List.forall_mem_nil _ | refine List.forall_mem_cons.mpr ⟨?_, ?_⟩ | exact .inl ⟨_, by k_mem⟩ | exact .inr (by assumption))))
theorem use_pop_nil {q d n kt it e : Nat} {i : Int} (G : GW w mean mg mb b₀) (bg : ∀ b o, b₀.get? b = some o → g.get? b = some o) (F : Fr g L s.heap m) (N : News g L s.heap news) (tk : Take (accS w.params q d #[] n kt i it e) news rest) (hdq : d < q) (hdp : dp < 890) (hun : un < 2900)
    (h : ∀ tp t t' h'  tk', Fr g L h' m → News g L h' ((q, accObj d #[] n) :: (d, dictOf [initEnt w.params kt i it] e) :: (tp, tupObj (Str.ofString "") (Str.ofString "") t t') :: rest) → AllNe tp news → Q (.ref tp) ⟨h', s.gens, s.drawn, tk', s.os⟩) :
    wpAny (model Challenge.rw_ph0143_01.row.prog w) (mkA dp un gd fs) (call (.ref 159) [.ref q]) Q E s :=
  wpAny_call (pop_nil q d n kt it e i G (own_take bg F N tk) hdq hdp hun fun tp t t' h'  tk'  O' K' hn =>
    have z := after F N tk K' O' (by kat_tups)
    h tp t t' h'  tk'  z.1 z.2 (allNe_of N hn))

theorem use_pop_last {q d : Nat} {items : Array Value} {v : Value} {n kt it e : Nat} {i : Int} (G : GW w mean mg mb b₀) (bg : ∀ b o, b₀.get? b = some o → g.get? b = some o) (F : Fr g L s.heap m) (N : News g L s.heap news) (tk : Take (accS w.params q d (items.push v) n kt i it e) news rest) (hdq : d < q) (hdp : dp < 890) (hun : un < 2900) (hz : (items.push v).size ≤ 100)
    (h : ∀  h'  tk', Fr g L h' m → News g L h' ((q, accObj d items (n + 1)) :: (d, dictOf [initEnt w.params kt i it] e) :: rest) → Q v ⟨h', s.gens, s.drawn, tk', s.os⟩) :
    wpAny (model Challenge.rw_ph0143_01.row.prog w) (mkA dp un gd fs) (call (.ref 159) [.ref q]) Q E s :=
  wpAny_call (pop_last q d items v n kt it e i G (own_take bg F N tk) hdq hdp hun hz fun  h'  tk'  O' K'  =>
    have z := after F N tk K' O' (by kat_tups)
    h  h'  tk'  z.1 z.2 )

theorem use_reset_none {q d : Nat} {items : Array Value} {n kt it : Nat} {i : Int} (G : GW w mean mg mb b₀) (bg : ∀ b o, b₀.get? b = some o → g.get? b = some o) (F : Fr g L s.heap m) (N : News g L s.heap news) (tk : Take (accS w.params q d items n kt i it 1) news rest) (hdq : d < q) (hdp : dp < 890) (hun : un < 2900) (hz : items.size ≤ 100)
    (h : ∀ n' it' h'  tk', Fr g L h' m → News g L h' ((q, accObj d #[] n') :: (d, dictOf [initEnt w.params kt 0 it'] 1) :: rest) → Q .none ⟨h', s.gens, s.drawn, tk', s.os⟩) :
    wpAny (model Challenge.rw_ph0143_01.row.prog w) (mkA dp un gd fs) (call (.ref 181) [.ref q]) Q E s :=
  wpAny_call (reset_none q d items n kt it i G (own_take bg F N tk) hdq hdp hun hz fun n' it' h'  tk'  O' K'  =>
    have z := after F N tk K' O' (by kat_tups)
    h n' it' h'  tk'  z.1 z.2 )

theorem use_reset_list {q d l : Nat} {items new : Array Value} {n kt it n2 : Nat} {i : Int} (G : GW w mean mg mb b₀) (bg : ∀ b o, b₀.get? b = some o → g.get? b = some o) (F : Fr g L s.heap m) (N : News g L s.heap news) (tk : Take ((l, listOf new n2) :: accS w.params q d items n kt i it 1) news rest) (hdq : d < q) (hql : q ≠ l) (hdl : d ≠ l) (hdp : dp < 890) (hun : un < 2900) (hz : items.size ≤ 100) (hz2 : new.size ≤ 100)
    (h : ∀ n' it' h'  tk', Fr g L h' m → News g L h' ((l, listOf new n2) :: (q, accObj d new n') :: (d, dictOf [initEnt w.params kt 0 it'] 1) :: rest) → Q .none ⟨h', s.gens, s.drawn, tk', s.os⟩) :
    wpAny (model Challenge.rw_ph0143_01.row.prog w) (mkA dp un gd fs) (call (.ref 181) [.ref q, .ref l]) Q E s :=
  wpAny_call (reset_list q d l items new n kt it n2 i G (own_take bg F N tk) hdq hql hdl hdp hun hz hz2 fun n' it' h'  tk'  O' K'  =>
    have z := after F N tk K' O' (by kat_tups)
    h n' it' h'  tk'  z.1 z.2 )

theorem use_pop_from {q d : Nat} {items : Array Value} {v : Value} {n kt it : Nat} {i : Int} {tk0 : Tok} (G : GW w mean mg mb b₀) (bg : ∀ b o, b₀.get? b = some o → g.get? b = some o) (F : Fr g L s.heap m) (N : News g L s.heap news) (tk : Take (accS w.params q d (items.push v) n kt i it 1) news rest) (hdq : d < q) (hdp : dp < 890) (hun : un < 2900) (hz : (items.push v).size ≤ 100)
    (h : ∀ l n' h'  tk', Fr g L h' m → News g L h' ((l, listOf #[v] 0) :: (q, accObj d items n') :: (d, dictOf [initEnt w.params kt i it] 1) :: rest) → AllNe l news → Q (.ref l) ⟨h', s.gens, s.drawn, tk', s.os⟩) :
    wpAny (model Challenge.rw_ph0143_01.row.prog w) (mkA dp un gd fs) (call (.ref 151) [.ref q, .int items.size tk0]) Q E s :=
  wpAny_call (pop_from_spec q d items v n kt it i tk0 G (own_take bg F N tk) hdq hdp hun hz fun l n' h'  tk'  O' K' hn =>
    have z := after F N tk K' O' (by kat_tups)
    h l n' h'  tk'  z.1 z.2 (allNe_of N hn))

theorem use_onlyws_ne {q d : Nat} {items : Array Value} {n kt it : Nat} {i : Int} (G : GW w mean mg mb b₀) (bg : ∀ b o, b₀.get? b = some o → g.get? b = some o) (F : Fr g L s.heap m) (N : News g L s.heap news) (tk : Take (accS w.params q d items n kt i it 1) news rest) (hdq : d < q) (hd0 : 200 < d) (hi : i ≠ 0) (hdp : dp < 880) (hun : un < 2800)
    (h : ∀  h'  tk', Fr g L h' m → News g L h' ((q, accObj d items n) :: (d, dictOf [initEnt w.params kt i it] 1) :: rest) → Q (.bool false) ⟨h', s.gens, s.drawn, tk', s.os⟩) :
    wpAny (model Challenge.rw_ph0143_01.row.prog w) (mkA dp un gd fs) (call (.ref 188) [.ref q]) Q E s :=
  wpAny_call (onlyws_ne q d items n kt it i G (own_take bg F N tk) hdq hd0 hi hdp hun fun  h'  tk'  O' K'  =>
    have z := after F N tk K' O' (by kat_tups)
    h  h'  tk'  z.1 z.2 )

theorem use_onlyws_no {q d : Nat} {items : Array Value} {ps : List (Str × Str)} {tb tr : Array Value} {n kt it : Nat} (G : GW w mean mg mb b₀) (gb : AllBare s.gens) (bg : ∀ b o, b₀.get? b = some o → g.get? b = some o) (F : Fr g L s.heap m) (N : News g L s.heap news) (tk : Take (accA w.params q d items n kt 0 it tb tr) news rest) (hT : TF s.heap items ps) (htb : TabOk posLen tb) (htr : TabOk posStr tr) (hdq : d < q) (hd0 : 200 < d) (hdp : dp < 880) (hun : un < 2800) (hz : items.size ≤ 100) (hps : Short ps) (hl : lenP ps > 0) (hw : Txt.isspace (txt ps) = false)
    (h : ∀ tb' tr' h' (gs : BG) tk', TabOk posLen tb' → TabOk posStr tr' → Fr g L h' m → News g L h' ((q, accObj d items n) :: (d, dictOf [initEnt w.params kt 0 it] 1) :: (161, tabObj tb') :: (168, tabObj tr') :: rest) → Q (.bool false) ⟨h', gs.1, s.drawn, tk', s.os⟩) :
    wpAny (model Challenge.rw_ph0143_01.row.prog w) (mkA dp un gd fs) (call (.ref 188) [.ref q]) Q E s :=
  wpAny_call (onlyws_no q d items ps tb tr n kt it G gb (own_take bg F N tk) hT htb htr hdq hd0 hdp hun hz hps hl hw fun tb' tr' h' gs tk' hb1 hb2 O' K'  =>
    have z := after F N tk K' O' (by kat_tups)
    h tb' tr' h' gs tk' hb1 hb2 z.1 z.2 )

theorem use_pushC {q d : Nat} {items : Array Value} {n kt it e : Nat} {i : Int} {f p : Str} {t t' : Tok} (G : GW w mean mg mb b₀) (bg : ∀ b o, b₀.get? b = some o → g.get? b = some o) (F : Fr g L s.heap m) (N : News g L s.heap news)
    (tk : Take (accS w.params q d items n kt i it e) news rest) (hdq : d < q) (hdp : dp < 900) (hun : un < 3000) (hz : items.size ≤ 100)
    (h : ∀ tp h' tk', Fr g L h' m → News g L h' ((q, accObj d (items.push (.ref tp)) (n + 1)) :: (d, dictOf [initEnt w.params kt i it] e) :: (tp, tupObj f p t t') :: rest) → AllNe tp news → R (.ok (.ret .none)) ⟨h', s.gens, s.drawn, tk', s.os⟩) :
    codeAny (model Challenge.rw_ph0143_01.row.prog w) (mkA dp un gd fs) (.call (.ref 143) ⟨[.ref q, .str f t, .str p t'], []⟩) R s :=
  push_spec q d items n kt it e i f p t t' G (own_take bg F N tk) hdq hdp hun hz fun tp h' tk' O' K' hn =>
    have z := after F N tk K' O' (by kat_tups)
    h tp h' tk' z.1 z.2 (allNe_of N hn)
end
section
theorem clear_D1 : True := by
  k_with_none
  w_top off
  trivial
noncomputable abbrev vent (P : Params) (name : String) (kt : Tok) (v : Value) : DictEntry := ⟨PyData.keyHash P (Str.ofString name), .str (Str.ofString name) kt, v⟩
noncomputable abbrev vfD (P : Params) (k : Nat → Nat) (ml : Int) (ln q : Nat) : Obj := dictOf [vent P "_maxlen" (k 0) (.int ml (k 1)), vent P "_continuation_ws" (k 2) (.str (Str.ofString " ") (k 3)), vent P "_continuation_ws_len" (k 4) (.int 1 (k 5)),
  vent P "_splitchars" (k 6) (.str (Str.ofString " ") (k 7)), vent P "_lines" (k 8) (.ref ln), vent P "_current_line" (k 9) (.ref q)] 6
noncomputable abbrev vfS (P : Params) (v dv ln q d : Nat) (k : Nat → Nat) (ml : Int) (lines : Array Value) (nl : Nat) (items : Array Value) (n kt : Nat) (i : Int) (it : Nat) (tb tr : Array Value) : List (Addr × Obj) :=
  [(v, instObj 115 dv), (dv, vfD P k ml ln q), (ln, listOf lines nl), (q, accObj d items n), (d, dictOf [initEnt P kt i it] 1), (161, tabObj tb), (168, tabObj tr)]
end
section
theorem clear_V1 : True := by
  k_with_none
  w_top off
  trivial
theorem vf_init (v dv : Nat) (hl ml : Int) (tl tm t1 t2 : Tok) (G : GW w mean mg mb b₀)
    (O : Own b₀ s.heap [(v, instObj 115 dv), (dv, dictOf [] 0)]) (hdq : dv < v) (hd0 : 200 < dv)
    (hdp : dp < 790) (hun : un < 1900)
    (h : ∀ ln q d k0 k1 k2 k3 k4 k5 k6 k7 k8 k9 kt h' tk', @LT.lt Nat _ v ln → @LT.lt Nat _ ln d → @LT.lt Nat _ d q → Own b₀ h' [(v, instObj 115 dv), (dv, dictOf [vent w.params "_maxlen" k0 (.int ml k1), vent w.params "_continuation_ws" k2 (.str (Str.ofString " ") k3), vent w.params "_continuation_ws_len" k4 (.int 1 k5), vent w.params "_splitchars" k6 (.str (Str.ofString " ") k7), vent w.params "_lines" k8 (.ref ln), vent w.params "_current_line" k9 (.ref q)] 6), (ln, listOf #[] 0), (q, accObj d #[] 0), (d, dictOf [initEnt w.params kt hl tl] 1)] → Kp [(v, instObj 115 dv), (dv, dictOf [] 0)] s.heap h' → s.heap.get? ln = none → s.heap.get? q = none → s.heap.get? d = none → R (.ok (.ret .none)) ⟨h', s.gens, s.drawn, tk', s.os⟩) :
    codeAny (model Challenge.rw_ph0143_01.row.prog w) (mkA dp un gd fs) (.call (.ref 56) ⟨[.ref v, .int hl tl, .int ml tm, .str (Str.ofString " ") t1, .str (Str.ofString " ") t2], []⟩) R s := by
  have X := G.X
  have T := G.T
  revert X; k_fill; intro X
  k_dflt ktr_enter
  k_steps
  refine h _ _ _ _ _ _ _ _ _ _ _ _ _ _ _ _ ?_ ?_ ?_ (by ktr_unf) (kp_of (by assumption) (by assumption)) (fresh_of (by assumption) (by assumption) (by k_mem) (by k_all)) (fresh_of (by assumption) (by assumption) (by k_mem) (by k_all)) (fresh_of (by assumption) (by assumption) (by k_mem) (by k_all))
  all_goals omega
theorem vfD_mk (P : Params) (k0 k1 k2 k3 k4 k5 k6 k7 k8 k9 : Nat) (ml : Int) (ln q : Nat) : dictOf [vent P "_maxlen" k0 (.int ml k1), vent P "_continuation_ws" k2 (.str (Str.ofString " ") k3), vent P "_continuation_ws_len" k4 (.int 1 k5), vent P "_splitchars" k6 (.str (Str.ofString " ") k7), vent P "_lines" k8 (.ref ln), vent P "_current_line" k9 (.ref q)] 6 = vfD P (fun n => [k0, k1, k2, k3, k4, k5, k6, k7, k8, k9].getD n 0) ml ln q := rfl
end
section
local macro_rules | `(tactic| walk_at "call ref") => `(tactic| (k_here; (with_reducible show wpAny _ _ (call (Value.ref 196) _ _) _ _ _); k_dflt (refine' use_part_count ?G ?b ?F ?N ?t ?h0 ?h1 ?h2 ?h3 ?_; (case G | b => assumption); (case F | N => k_asm); (case t => tb_rel); (case h0 | h1 | h2 | h3 => ktr_units); k_whole; intro h' tk' tk1 F' N'; (try k_sweep))))
local macro_rules | `(tactic| walk_at "call ref") => `(tactic| (k_here; (with_reducible show wpAny _ _ (call (Value.ref 143) _ _) _ _ _); k_dflt (refine' use_push ?G ?b ?F ?N ?t ?h0 ?h1 ?h2 ?h3 ?_; (case G | b => assumption); (case F | N => k_asm); (case t => tb_rel); (case h0 | h1 | h2 | h3 => ktr_units); k_whole; intro tp' h' tk' F' N' hne; (try k_sweep))))
local macro_rules | `(tactic| walk_at "call ref") => `(tactic| (k_here; (with_reducible show wpAny _ _ (call (Value.ref 159) _ _) _ _ _); k_dflt (refine' use_pop_last ?G ?b ?F ?N ?t ?h0 ?h1 ?h2 ?h3 ?_; (case G | b => assumption); (case F | N => k_asm); (case t => tb_rel); (case h0 | h1 | h2 | h3 => ktr_units); k_whole; intro h' tk' F' N'; (try k_sweep))))
local macro_rules | `(tactic| walk_at "call ref") => `(tactic| (k_here; (with_reducible show wpAny _ _ (call (Value.ref 159) _ _) _ _ _); k_dflt (refine' use_pop_nil ?G ?b ?F ?N ?t ?h0 ?h1 ?h2 ?_; (case G | b => assumption); (case F | N => k_asm); (case t => tb_rel); (case h0 | h1 | h2 => ktr_units); k_whole; intro tp' t1' t2' h' tk' F' N' hne; (try k_sweep))))
local macro_rules | `(tactic| walk_at "call ref") => `(tactic| (k_here; (with_reducible show wpAny _ _ (call (Value.ref 181) _ _) _ _ _); k_dflt (refine' use_reset_none ?G ?b ?F ?N ?t ?h0 ?h1 ?h2 ?h3 ?_; (case G | b => assumption); (case F | N => k_asm); (case t => tb_rel); (case h0 | h1 | h2 | h3 => ktr_units); k_whole; intro n' it' h' tk' F' N'; (try k_sweep))))
local macro_rules | `(tactic| walk_at "call ref") => `(tactic| (k_here; (with_reducible show wpAny _ _ (call (Value.ref 181) _ _) _ _ _); k_dflt (refine' use_reset_list ?G ?b ?F ?N ?t ?h0 ?h1 ?h2 ?h3 ?h4 ?h5 ?h6 ?_; (case G | b => assumption); (case F | N => k_asm); (case t => tb_rel); (case h0 => ktr_units); (case h1 | h2 => k_ne); (case h3 | h4 | h5 | h6 => ktr_units); k_whole; intro n' it' h' tk' F' N'; (try k_sweep))))
local macro_rules | `(tactic| walk_at "call ref") => `(tactic| (k_here; (with_reducible show wpAny _ _ (call (Value.ref 151) _ _) _ _ _); k_dflt (refine' use_pop_from ?G ?b ?F ?N ?t ?h0 ?h1 ?h2 ?h3 ?_; (case G | b => assumption); (case F | N => k_asm); (case t => tb_rel); (case h0 | h1 | h2 | h3 => ktr_units); k_whole; intro l' n' h' tk' F' N' hne; (try k_sweep))))
local macro_rules | `(tactic| walk_at "call ref") => `(tactic| (k_here; (with_reducible show wpAny _ _ (call (Value.ref 188) _ _) _ _ _); k_dflt (refine' use_onlyws_no ?G ?gb ?b ?F ?N ?t ?h0 ?h1 ?h2 ?h3 ?h4 ?h5 ?h6 ?h7 ?h8 ?h9 ?h10 ?_; (case G => assumption); (case gb => first | assumption | exact Subtype.property _);  (case b => assumption); (case F | N => k_asm); (case t => tb_rel); (case h0 => k_caught0); (case h1 | h2 => assumption); (case h3 | h4 | h5 | h6 | h7 => ktr_units); (case h8 | h9 | h10 => assumption); k_whole; intro tb' tr' h' gs' tk' hb1 hb2 F' N'; (try k_sweep))))
local macro_rules | `(tactic| walk_at "call ref") => `(tactic| (k_here; (with_reducible show wpAny _ _ (call (Value.ref 188) _ _) _ _ _); k_dflt (refine' use_onlyws_ne ?G ?b ?F ?N ?t ?h0 ?h1 ?h2 ?h3 ?h4 ?_; (case G | b => assumption); (case F | N => k_asm); (case t => tb_rel); (case h0 | h1 => ktr_units); (case h2 => (first | assumption | omega)); (case h3 | h4 => ktr_units); k_whole; intro h' tk' F' N'; (try k_sweep))))
local macro_rules | `(tactic| walk_at "getAttr ref") => `(tactic| (k_here; k_dflt (refine' getbound_acc ?k1 ?k2 ?k3 ?k4 ?k5 ?k6 ?k7 ?k8 ?k9 ?ka ?kb ?kc ?kd ?ke ?_; (case k1 | k2 | k3 => k_asm); (case k4 => k_inst); (case k5 | k6 | k7 | k8 | k9 | ka | kb | kc => k_is); (case kd => decide); (case ke => k_get); k_whole; intro q' h' F' N' l1; (try k_lt l1))))
local macro_rules | `(tactic| walk_at "eval Call") => `(tactic| (k_here; (with_reducible show wpAny _ _ (eval (PySem.Expr.Call (PySem.Expr.Attribute _ _ _) [PySem.Expr.Starred _ _] [] _) _) _ _ _); k_dflt (refine' MethodStar ?_ ?b ?e; (case b | e => rfl); k_whole)))
local macro_rules | `(tactic| walk_at "callWith ref") => `(tactic| (k_here; (with_reducible show wpAny _ _ (callWith _ (Value.ref _) [] (backTo _ (starEach [PySem.Expr.Starred _ _] _)) []) _ _ _); k_dflt (refine' callWith_star (g := 143) ?F ?X ?N ?q ?f ?ev ?t ?z ?_ ?e; (case F | X | N => k_asm); (case q => k_mem); (case f => k_is); (case ev => (intro Q hq; refine' ld ?k1 ?k2 hq; (case k1 => k_asm); (case k2 => exact rfl))); (case t => first | exact News.get (by k_asm) (by k_mem) | exact Fr.keep (by k_asm) _ _ (by assumption)); (case z => exact Nat.le_of_ble_eq_true rfl); (case e => rfl); k_whole; intro h' F' N'; (try k_sweep); (refine' use_pushC ?G ?b ?F ?N ?t ?c1 ?c2 ?c3 ?c4 ?_; (case G | b => assumption); (case F | N => k_asm); (case t => tb_rel); (case c1 | c2 | c3 | c4 => ktr_units); k_whole; intro tp' h' tk' F' N' hne; (try k_sweep)))))
section
local macro_rules | `(tactic| k_ne) => `(tactic| (refine neN ?_; (try dsimp only); (first | exact Nat.ne_of_lt (bl_get (by with_reducible assumption) (by k_mem)) | exact Nat.ne_of_gt (bl_get (by with_reducible assumption) (by k_mem)) | exact Nat.ne_of_lt (lt_get (by with_reducible assumption) (by k_mem)) | exact Nat.ne_of_gt (lt_get (by with_reducible assumption) (by k_mem)) | exact ne_get (by with_reducible assumption) (by k_mem) | exact Ne.symm (ne_get (by with_reducible assumption) (by k_mem)) | decide | omega)))
local macro_rules | `(tactic| k_lt $h:ident) => `(tactic| (skip))
section
theorem clear_N1 : True := by
  k_with_none
  w_top off
  trivial
theorem newline_nil (v dv ln q d : Nat) (k : Nat → Nat) (ml : Int) (lines : Array Value) (nl n kt it : Nat) (i : Int) (tb tr : Array Value) (G : GW w mean mg mb b₀) (gb : AllBare s.gens)
    (O : Own b₀ s.heap (vfS w.params v dv ln q d k ml lines nl #[] n kt i it tb tr)) (htb : TabOk posLen tb) (htr : TabOk posStr tr) (h0 : 200 < dv) (h1 : dv < v) (h2 : v < ln) (h3 : ln < d) (h4 : d < q)
    (hdp : dp < 800) (hun : un < 2000) (hi : i > 0) (hi2 : i < 100) (hz : lines.size ≤ 100)
    (h : ∀ tb' tr' nl' n' it' t0 h' (gs : BG) tk', TabOk posLen tb' → TabOk posStr tr' → Own b₀ h' (vfS w.params v dv ln q d k ml (lines.push (.str (Str.ofString "") t0)) nl' #[] n' kt 0 it' tb' tr') → Kp (vfS w.params v dv ln q d k ml lines nl #[] n kt i it tb tr) s.heap h' → R (.ok (.ret .none)) ⟨h', gs.1, s.drawn, tk', s.os⟩) :
    codeAny (model Challenge.rw_ph0143_01.row.prog w) (mkA dp un gd fs) (.call (.ref 77) ⟨[.ref v], []⟩) R s := by
  obtain ⟨b1, b2, b3, b4, b5⟩ := addr5 h0 h1 h2 h3 h4
  have X := G.X
  have T := G.T
  have hE := lenP_e
  revert X; k_fill; intro X
  k_dflt ktr_enter
  k_steps
  exact h _ _ _ _ _ _ _ _ _ (by assumption) (by assumption) (by ktr_unf) (kp_of (by assumption) (by assumption))
end
section
theorem clear_N3 : True := by
  k_with_none
  w_top off
  trivial
theorem newline_zero (v dv ln q d : Nat) (k : Nat → Nat) (ml : Int) (lines : Array Value) (nl n kt it : Nat) (tb tr : Array Value) (G : GW w mean mg mb b₀) (gb : AllBare s.gens)
    (O : Own b₀ s.heap (vfS w.params v dv ln q d k ml lines nl #[] n kt 0 it tb tr)) (htb : TabOk posLen tb) (htr : TabOk posStr tr) (h0 : 200 < dv) (h1 : dv < v) (h2 : v < ln) (h3 : ln < d) (h4 : d < q)
    (hdp : dp < 800) (hun : un < 2000) (hz : lines.size ≤ 100)
    (h : ∀ tb' tr' nl' n' it' h' (gs : BG) tk', TabOk posLen tb' → TabOk posStr tr' → Own b₀ h' (vfS w.params v dv ln q d k ml lines nl' #[] n' kt 0 it' tb' tr') → Kp (vfS w.params v dv ln q d k ml lines nl #[] n kt 0 it tb tr) s.heap h' → R (.ok (.ret .none)) ⟨h', gs.1, s.drawn, tk', s.os⟩) :
    codeAny (model Challenge.rw_ph0143_01.row.prog w) (mkA dp un gd fs) (.call (.ref 77) ⟨[.ref v], []⟩) R s := by
  obtain ⟨b1, b2, b3, b4, b5⟩ := addr5 h0 h1 h2 h3 h4
  have X := G.X
  have T := G.T
  have hE := lenP_e
  revert X; k_fill; intro X
  k_dflt ktr_enter
  k_steps
  skip
  exact h _ _ _ _ _ _ _ _ (by assumption) (by assumption) (by ktr_unf) (kp_of (by assumption) (by assumption))
end
section
local macro_rules | `(tactic| walk_at "compareOp NotEq ref") => `(tactic| (k_here; (with_reducible show wpAny _ _ (compareOp CmpOp.NotEq (Value.ref _) (Value.ref _)) _ _ _); k_dflt (refine' ne_dataH ?a ?b ?c ?d ?e ?_; (case a | b => first | exact Reads.keeps (Fr.keep (by k_asm)) (by assumption) | ke_read); (case c | d => first | assumption | ke_shaped); (case e => ktr_units); k_whole); ke_norm))
section
theorem clear_N2 : True := by
  k_with_none
  w_top off
  trivial
theorem newline_last (v dv ln q d : Nat) (k : Nat → Nat) (ml : Int) (lines : Array Value) (nl n kt it : Nat) (i : Int) (tb tr : Array Value) (items : Array Value) (val : Value) (ps : List (Str × Str)) (f r : Str) (G : GW w mean mg mb b₀) (gb : AllBare s.gens)
    (O : Own b₀ s.heap (vfS w.params v dv ln q d k ml lines nl (items.push val) n kt i it tb tr)) (hT : TF s.heap (items.push val) (ps ++ [(f, r)])) (htb : TabOk posLen tb) (htr : TabOk posStr tr) (h0 : 200 < dv) (h1 : dv < v) (h2 : v < ln) (h3 : ln < d) (h4 : d < q)
    (hdp : dp < 800) (hun : un < 2000) (hi : i ≥ 0) (hi2 : i < 100) (hz : lines.size ≤ 100) (hzi : (items.push val).size ≤ 100) (hr : r ≠ Str.ofString "") (hsh : SeqAt.shaped (.tuple [.str f, .str r]) = true) (hps : Short (ps ++ [(f, r)])) (hl : lenP (ps ++ [(f, r)]) > 0) (hw : Txt.isspace (txt (ps ++ [(f, r)])) = false)
    (h : ∀ tb' tr' nl' n' it' t0 h' (gs : BG) tk', TabOk posLen tb' → TabOk posStr tr' → Own b₀ h' (vfS w.params v dv ln q d k ml (lines.push (.str (txt (ps ++ [(f, r)])) t0)) nl' #[] n' kt 0 it' tb' tr') → Kp (vfS w.params v dv ln q d k ml lines nl (items.push val) n kt i it tb tr) s.heap h' → R (.ok (.ret .none)) ⟨h', gs.1, s.drawn, tk', s.os⟩) :
    codeAny (model Challenge.rw_ph0143_01.row.prog w) (mkA dp un gd fs) (.call (.ref 77) ⟨[.ref v], []⟩) R s := by
  obtain ⟨b1, b2, b3, b4, b5⟩ := addr5 h0 h1 h2 h3 h4
  have X := G.X
  have T := G.T
  have hzi' : items.size ≤ 99 := by rw [Array.size_push] at hzi; omega
  have hlb := lenP_le hps.2
  have hlb2 := hps.1
  revert X; k_fill; intro X
  k_dflt ktr_enter
  have hTg : TF _ (items.push val) (ps ++ [(f, r)]) := (hT.kp O (by simp [accObj, dictOf, tabObj, instObj, W.listOf]) (by assumption))
  obtain ⟨hTf, tp, t, t', rfl, hTp⟩ := hTg.front
  have hR := reads_tuple_at hTp rfl rfl (ReadsAll.cons (Reads.str f t) (ReadsAll.cons (Reads.str r t') ReadsAll.nil))
  have hcf : (f == Str.ofString " " && r == Str.ofString "") = false := by
    rw [Bool.and_eq_false_iff]; exact .inr (by simpa using hr)
  by_cases hi0 : i = 0
  · subst hi0
    k_steps
    exact h _ _ _ _ _ _ _ _ _ (by assumption) (by assumption) (by ktr_unf) (kp_of (by assumption) (by assumption))
  · k_steps
    exact h _ _ _ _ _ _ _ _ _ (by assumption) (by assumption) (by ktr_unf) (kp_of (by assumption) (by assumption))
end
section
theorem clear_A1 : True := by
  k_with_none
  w_top off
  trivial
theorem chunk_fits (v dv ln q d : Nat) (k : Nat → Nat) (ml : Int) (lines : Array Value) (nl n kt it : Nat) (i : Int) (tb tr : Array Value) (items : Array Value) (ps : List (Str × Str)) (f r : Str) (t t' : Tok) (G : GW w mean mg mb b₀) (gb : AllBare s.gens)
    (O : Own b₀ s.heap (vfS w.params v dv ln q d k ml lines nl items n kt i it tb tr)) (hT : TF s.heap items ps) (htb : TabOk posLen tb) (h0 : 200 < dv) (h1 : dv < v) (h2 : v < ln) (h3 : ln < d) (h4 : d < q)
    (hdp : dp < 790) (hun : un < 1900) (hi : i ≥ 0) (hi2 : i < 100) (hz : items.size ≤ 98) (hps : Short (ps ++ [(f, r)])) (hfit : i + lenP (ps ++ [(f, r)]) ≤ ml)
    (h : ∀ tp tb' n' h' (gs : BG) tk', TabOk posLen tb' → Own b₀ h' ((tp, tupObj f r t t') :: vfS w.params v dv ln q d k ml lines nl (items.push (.ref tp)) n' kt i it tb' tr) → Kp (vfS w.params v dv ln q d k ml lines nl items n kt i it tb tr) s.heap h' → s.heap.get? tp = none → R (.ok (.ret .none)) ⟨h', gs.1, s.drawn, tk', s.os⟩) :
    codeAny (model Challenge.rw_ph0143_01.row.prog w) (mkA dp un gd fs) (.call (.ref 112) ⟨[.ref v, .str f t, .str r t'], []⟩) R s := by
  obtain ⟨b1, b2, b3, b4, b5⟩ := addr5 h0 h1 h2 h3 h4
  have X := G.X
  have T := G.T
  have hlb := lenP_le hps.2
  have hlb2 := hps.1
  have hln := lenP_nonneg (ps ++ [(f, r)])
  revert X; k_fill; intro X
  k_dflt ktr_enter
  have hTg : TF _ items ps := (hT.kp O (by simp [accObj, dictOf, tabObj, instObj, W.listOf]) (by assumption))
  k_steps
  exact h _ _ _ _ _ _ (by assumption) (by ktr_unf) (kp_of (by assumption) (by assumption)) (fresh_of (by assumption) (by assumption) (by k_mem) (by k_all))
end
section
theorem clear_D2 : True := by
  k_with_none
  w_top off
  trivial
variable {A : Around} {E : Value → Shared → Prop} {Q : Value → Shared → Prop} {g : Heap} {L : Addr} {m : Str → Option Value} {news rest : List (Addr × Obj)}
local macro_rules | `(tactic| kat_tups) => `(tactic| (repeat' (first | exact List.forall_mem_nil _ | refine List.forall_mem_cons.mpr ⟨?_, ?_⟩ | exact .inl ⟨_, by k_mem⟩ | exact .inr (by assumption))))
theorem use_newline_nil {v dv ln q d : Nat} {k : Nat → Nat} {ml : Int} {lines : Array Value} {nl n kt it : Nat} {i : Int} {tb tr : Array Value} (G : GW w mean mg mb b₀) (gb : AllBare s.gens) (bg : ∀ b o, b₀.get? b = some o → g.get? b = some o) (F : Fr g L s.heap m) (N : News g L s.heap news) (tk : Take (vfS w.params v dv ln q d k ml lines nl #[] n kt i it tb tr) news rest) (htb : TabOk posLen tb) (htr : TabOk posStr tr) (h0 : 200 < dv) (h1 : dv < v) (h2 : v < ln) (h3 : ln < d) (h4 : d < q) (hdp : dp < 800) (hun : un < 2000) (hi : i > 0) (hi2 : i < 100) (hz : lines.size ≤ 100)
    (h : ∀ tb' tr' nl' n' it' t0 h' (gs : BG) tk', TabOk posLen tb' → TabOk posStr tr' → Fr g L h' m → News g L h' ((v, instObj 115 dv) :: (dv, vfD w.params k ml ln q) :: (ln, listOf (lines.push (.str (Str.ofString "") t0)) nl') :: (q, accObj d #[] n') :: (d, dictOf [initEnt w.params kt 0 it'] 1) :: (161, tabObj tb') :: (168, tabObj tr') :: rest) → Q .none ⟨h', gs.1, s.drawn, tk', s.os⟩) :
    wpAny (model Challenge.rw_ph0143_01.row.prog w) (mkA dp un gd fs) (call (.ref 77) [.ref v]) Q E s :=
  wpAny_call (newline_nil v dv ln q d k ml lines nl n kt it i tb tr G gb (own_take bg F N tk) htb htr h0 h1 h2 h3 h4 hdp hun hi hi2 hz fun tb' tr' nl' n' it' t0 h' gs tk' hb1 hb2 O' K'  =>
    have z := after F N tk K' O' (by kat_tups)
    h tb' tr' nl' n' it' t0 h' gs tk' hb1 hb2 z.1 z.2 )

theorem use_newline_last {v dv ln q d : Nat} {k : Nat → Nat} {ml : Int} {lines : Array Value} {nl n kt it : Nat} {i : Int} {tb tr items : Array Value} {val : Value} {ps : List (Str × Str)} {f r : Str} (G : GW w mean mg mb b₀) (gb : AllBare s.gens) (bg : ∀ b o, b₀.get? b = some o → g.get? b = some o) (F : Fr g L s.heap m) (N : News g L s.heap news) (tk : Take (vfS w.params v dv ln q d k ml lines nl (items.push val) n kt i it tb tr) news rest) (hT : TF s.heap (items.push val) (ps ++ [(f, r)])) (htb : TabOk posLen tb) (htr : TabOk posStr tr) (h0 : 200 < dv) (h1 : dv < v) (h2 : v < ln) (h3 : ln < d) (h4 : d < q) (hdp : dp < 800) (hun : un < 2000) (hi : i ≥ 0) (hi2 : i < 100) (hz : lines.size ≤ 100) (hzi : (items.push val).size ≤ 100) (hr : r ≠ Str.ofString "") (hsh : SeqAt.shaped (.tuple [.str f, .str r]) = true) (hps : Short (ps ++ [(f, r)])) (hl : lenP (ps ++ [(f, r)]) > 0) (hw : Txt.isspace (txt (ps ++ [(f, r)])) = false)
    (h : ∀ tb' tr' nl' n' it' t0 h' (gs : BG) tk', TabOk posLen tb' → TabOk posStr tr' → Fr g L h' m → News g L h' ((v, instObj 115 dv) :: (dv, vfD w.params k ml ln q) :: (ln, listOf (lines.push (.str (txt (ps ++ [(f, r)])) t0)) nl') :: (q, accObj d #[] n') :: (d, dictOf [initEnt w.params kt 0 it'] 1) :: (161, tabObj tb') :: (168, tabObj tr') :: rest) → Q .none ⟨h', gs.1, s.drawn, tk', s.os⟩) :
    wpAny (model Challenge.rw_ph0143_01.row.prog w) (mkA dp un gd fs) (call (.ref 77) [.ref v]) Q E s :=
  wpAny_call (newline_last v dv ln q d k ml lines nl n kt it i tb tr items val ps f r G gb (own_take bg F N tk) hT htb htr h0 h1 h2 h3 h4 hdp hun hi hi2 hz hzi hr hsh hps hl hw fun tb' tr' nl' n' it' t0 h' gs tk' hb1 hb2 O' K'  =>
    have z := after F N tk K' O' (by kat_tups)
    h tb' tr' nl' n' it' t0 h' gs tk' hb1 hb2 z.1 z.2 )

theorem use_newline_zero {v dv ln q d : Nat} {k : Nat → Nat} {ml : Int} {lines : Array Value} {nl n kt it : Nat} {tb tr : Array Value} (G : GW w mean mg mb b₀) (gb : AllBare s.gens) (bg : ∀ b o, b₀.get? b = some o → g.get? b = some o) (F : Fr g L s.heap m) (N : News g L s.heap news) (tk : Take (vfS w.params v dv ln q d k ml lines nl #[] n kt 0 it tb tr) news rest) (htb : TabOk posLen tb) (htr : TabOk posStr tr) (h0 : 200 < dv) (h1 : dv < v) (h2 : v < ln) (h3 : ln < d) (h4 : d < q) (hdp : dp < 800) (hun : un < 2000) (hz : lines.size ≤ 100)
    (h : ∀ tb' tr' nl' n' it' h' (gs : BG) tk', TabOk posLen tb' → TabOk posStr tr' → Fr g L h' m → News g L h' ((v, instObj 115 dv) :: (dv, vfD w.params k ml ln q) :: (ln, listOf lines nl') :: (q, accObj d #[] n') :: (d, dictOf [initEnt w.params kt 0 it'] 1) :: (161, tabObj tb') :: (168, tabObj tr') :: rest) → Q .none ⟨h', gs.1, s.drawn, tk', s.os⟩) :
    wpAny (model Challenge.rw_ph0143_01.row.prog w) (mkA dp un gd fs) (call (.ref 77) [.ref v]) Q E s :=
  wpAny_call (newline_zero v dv ln q d k ml lines nl n kt it tb tr G gb (own_take bg F N tk) htb htr h0 h1 h2 h3 h4 hdp hun hz fun tb' tr' nl' n' it' h' gs tk' hb1 hb2 O' K'  =>
    have z := after F N tk K' O' (by kat_tups)
    h tb' tr' nl' n' it' h' gs tk' hb1 hb2 z.1 z.2 )
end
section
local macro_rules | `(tactic| walk_at "call ref") => `(tactic| (k_here; (with_reducible show wpAny _ _ (call (Value.ref 77) _ _) _ _ _); k_dflt (refine' use_newline_zero ?G ?gb ?b ?F ?N ?t ?h0 ?h1 ?h2 ?h3 ?h4 ?h5 ?h6 ?h7 ?h8 ?h9 ?_; (case G => assumption); (case gb => first | assumption | exact Subtype.property _);  (case b => assumption); (case F | N => k_asm); (case t => tb_rel); (case h0 | h1 => assumption); (case h2 | h3 | h4 | h5 | h6 | h7 | h8 | h9 => ktr_units); k_whole; intro tb' tr' nl' n' it' h' gs' tk' hb1 hb2 F' N'; (try k_sweep))))
local macro_rules | `(tactic| walk_at "call ref") => `(tactic| (k_here; (with_reducible show wpAny _ _ (call (Value.ref 77) _ _) _ _ _); k_dflt (refine' use_newline_nil ?G ?gb ?b ?F ?N ?t ?h0 ?h1 ?h2 ?h3 ?h4 ?h5 ?h6 ?h7 ?h8 ?h9 ?h10 ?h11 ?_; (case G => assumption); (case gb => first | assumption | exact Subtype.property _);  (case b => assumption); (case F | N => k_asm); (case t => tb_rel); (case h0 | h1 => assumption); (case h2 | h3 | h4 | h5 | h6 | h7 | h8 | h9 | h10 | h11 => ktr_units); k_whole; intro tb' tr' nl' n' it' t0' h' gs' tk' hb1 hb2 F' N'; (try k_sweep))))
local macro_rules | `(tactic| walk_at "call ref") => `(tactic| (k_here; (with_reducible show wpAny _ _ (call (Value.ref 159) _ _) _ _ _); k_dflt (refine' use_pop_last (items := #[]) ?G ?b ?F ?N ?t ?h0 ?h1 ?h2 ?h3 ?_; (case G | b => assumption); (case F | N => k_asm); (case t => tb_rel); (case h0 | h1 | h2 => ktr_units); (case h3 => (first | decide | exact Nat.le_of_ble_eq_true rfl)); k_whole; intro h' tk' F' N'; (try k_sweep))))
section
theorem clear_A2 : True := by
  k_with_none
  w_top off
  trivial
theorem chunk_alone (v dv ln q d : Nat) (k : Nat → Nat) (ml : Int) (lines : Array Value) (nl n kt it : Nat) (tb tr : Array Value) (f r : Str) (t t' : Tok) (G : GW w mean mg mb b₀) (gb : AllBare s.gens)
    (O : Own b₀ s.heap (vfS w.params v dv ln q d k ml lines nl #[] n kt 0 it tb tr)) (htb : TabOk posLen tb) (h0 : 200 < dv) (h1 : dv < v) (h2 : v < ln) (h3 : ln < d) (h4 : d < q)
    (hdp : dp < 790) (hun : un < 1900) (hps : Short [(f, r)]) (hfit : ¬ 0 + lenP [(f, r)] ≤ ml)
    (h : ∀ tp tb' n' h' (gs : BG) tk', TabOk posLen tb' → Own b₀ h' ((tp, tupObj f r t t') :: vfS w.params v dv ln q d k ml lines nl #[.ref tp] n' kt 0 it tb' tr) → Kp (vfS w.params v dv ln q d k ml lines nl #[] n kt 0 it tb tr) s.heap h' → s.heap.get? tp = none → R (.ok (.ret .none)) ⟨h', gs.1, s.drawn, tk', s.os⟩) :
    codeAny (model Challenge.rw_ph0143_01.row.prog w) (mkA dp un gd fs) (.call (.ref 112) ⟨[.ref v, .str f t, .str r t'], []⟩) R s := by
  obtain ⟨b1, b2, b3, b4, b5⟩ := addr5 h0 h1 h2 h3 h4
  have X := G.X
  have T := G.T
  have hlb := lenP_le hps.2
  have hlb2 := hps.1
  have hln := lenP_nonneg [(f, r)]
  revert X; k_fill; intro X
  k_dflt ktr_enter
  k_steps
  refine for_open ?_ (fun _ => rfl)
  k_steps
  rename Fr _ _ _ _ => F1
  rename News _ _ _ _ => N1
  refine iter_str F1 N1 (by decide +kernel) fun I o h1 S1 F2 N2 l2 => ?_
  clear F1 N1
  refine for_turn ?_
  refine' next_str F2 N2 (by tb_rel) S1 (c := 32) (by decide +kernel) fun o2 h2 S2 F1 N1 => ?_
  clear F2 N2
  dsimp only
  refine wpAny_of_eq rfl ?_
  k_steps
  refine for_open ?_ (fun _ => rfl)
  k_steps
  rename IsRange _ _ _ _ _ _ _ _ => R1
  rename Fr _ _ _ _ => F1
  rename News _ _ _ _ => N1
  refine iter_range F1 N1 R1 (by show Builtin.Range.small (((1:Nat):Int) - 1) 0 (-1) = true; decide +kernel) fun I3 h4 F2 N2 l4 => ?_
  clear F1 N1 R1
  refine for_turn ?_
  refine' end_range rfl F2 N2 (by tb_rel) (by show Builtin.Range.rangeSize (((1:Nat):Int) - 1) 0 (-1) ≤ 0; decide +kernel) fun h5 F1 N1 => ?_
  clear F2 N2
  dsimp only
  k_steps
  dsimp only [ForPost]
  rename Fr _ _ _ _ => F1
  rename News _ _ _ _ => N1
  refine for_turn ?_
  refine' end_str rfl F1 N1 (by tb_rel) S2 (by rfl) fun h6 F2 N2 => ?_
  clear F1 N1
  dsimp only
  k_steps
  dsimp only
  exact h _ _ _ _ _ _ (by assumption) (by ktr_unf) (kp_of (by assumption) (by assumption)) (fresh_of (by assumption) (by assumption) (by k_mem) (by k_all))
end
section
local macro_rules | `(tactic| walk_at "truthy str") => `(tactic| (k_here; (with_reducible show wpAny _ _ (PySem.truthy (Value.str _ _)) _ _ _); (refine' KXt.truthy_pos (K := 100) ?kxta ?kxtb ?kxtc ?_; (case kxta | kxtb => assumption); (case kxtc => decide)); intro _))
local macro_rules | `(tactic| walk_at "subscriptTail") => `(tactic| (k_here; (with_reducible show wpAny _ _ (subscriptTail _ _ (Value.str _ _) (Value.int 0 _)) _ _ _); (refine' tail_str0 ?a ?_ ?b; (case a => assumption); (case b => with_unfolding_all rfl))))
local macro_rules | `(tactic| walk_at "subscriptTail") => `(tactic| (k_here; (with_reducible show wpAny _ _ (subscriptTail _ _ (Value.ref _) (Value.int _ _)) _ _ _); k_dflt (refine' subitem_K ?k1 ?k2 ?k3 ?k4 ?k5 ?k6 ?k7 ?k8 ?k9 ?ka ?kb ?_ ?kc; (case k1 | k2 | k3 => k_asm); (case k4 | k5 => k_mem); (case k6 | k7 | k8 => k_is); (case k9 | ka => omega); (case kb => (rw [Int.toNat_natCast]; exact Array.getElem?_push_size)); (case kc => with_unfolding_all rfl); k_whole)))
section
theorem clear_A3 : True := by
  k_with_none
  w_top off
  trivial
theorem chunk_head (v dv ln q d : Nat) (k : Nat → Nat) (ml : Int) (lines : Array Value) (nl n kt it : Nat) (i : Int) (tb tr : Array Value) (f r : Str) (t t' : Tok) (G : GW w mean mg mb b₀) (gb : AllBare s.gens)
    (O : Own b₀ s.heap (vfS w.params v dv ln q d k ml lines nl #[] n kt i it tb tr)) (htb : TabOk posLen tb) (htr : TabOk posStr tr) (h0 : 200 < dv) (h1 : dv < v) (h2 : v < ln) (h3 : ln < d) (h4 : d < q)
    (hdp : dp < 790) (hun : un < 1900) (hps : Short [(f, r)]) (hfit : ¬ i + lenP [(f, r)] ≤ ml) (hf1 : 1 ≤ f.length) (hf2 : f.length ≤ 100) (hi : i > 0) (hi2 : i < 100) (hz : lines.size ≤ 98)
    (h : ∀ tp tb' tr' nl' n' it' t0 h' (gs : BG) tk', TabOk posLen tb' → TabOk posStr tr' → Own b₀ h' ((tp, tupObj f r t t') :: vfS w.params v dv ln q d k ml (lines.push (.str (Str.ofString "") t0)) nl' #[.ref tp] n' kt 0 it' tb' tr') → Kp (vfS w.params v dv ln q d k ml lines nl #[] n kt i it tb tr) s.heap h' → s.heap.get? tp = none → R (.ok (.ret .none)) ⟨h', gs.1, s.drawn, tk', s.os⟩) :
    codeAny (model Challenge.rw_ph0143_01.row.prog w) (mkA dp un gd fs) (.call (.ref 112) ⟨[.ref v, .str f t, .str r t'], []⟩) R s := by
  obtain ⟨b1, b2, b3, b4, b5⟩ := addr5 h0 h1 h2 h3 h4
  have X := G.X
  have T := G.T
  have hlb := lenP_le hps.2
  have hlb2 := hps.1
  have hln := lenP_nonneg [(f, r)]
  revert X; k_fill; intro X
  k_dflt ktr_enter
  k_steps
  refine for_open ?_ (fun _ => rfl)
  k_steps
  rename Fr _ _ _ _ => F1
  rename News _ _ _ _ => N1
  refine iter_str F1 N1 (by decide +kernel) fun I o h1 S1 F2 N2 l2 => ?_
  clear F1 N1
  refine for_turn ?_
  refine' next_str F2 N2 (by tb_rel) S1 (c := 32) (by decide +kernel) fun o2 h2 S2 F1 N1 => ?_
  clear F2 N2
  dsimp only
  refine wpAny_of_eq rfl ?_
  k_steps
  refine for_open ?_ (fun _ => rfl)
  k_steps
  rename IsRange _ _ _ _ _ _ _ _ => R1
  rename Fr _ _ _ _ => F1
  rename News _ _ _ _ => N1
  refine iter_range F1 N1 R1 (by show Builtin.Range.small (((1:Nat):Int) - 1) 0 (-1) = true; decide +kernel) fun I3 h4 F2 N2 l4 => ?_
  clear F1 N1 R1
  refine for_turn ?_
  refine' end_range rfl F2 N2 (by tb_rel) (by show Builtin.Range.rangeSize (((1:Nat):Int) - 1) 0 (-1) ≤ 0; decide +kernel) fun h5 F1 N1 => ?_
  clear F2 N2
  dsimp only
  k_steps
  dsimp only [ForPost]
  rename Fr _ _ _ _ => F1
  rename News _ _ _ _ => N1
  refine for_turn ?_
  refine' end_str rfl F1 N1 (by tb_rel) S2 (by rfl) fun h6 F2 N2 => ?_
  clear F1 N1
  dsimp only
  k_steps
  (try dsimp only)
  exact h _ _ _ _ _ _ _ _ _ _ (by assumption) (by assumption) (by ktr_unf) (kp_of (by assumption) (by assumption)) (fresh_of (by assumption) (by assumption) (by k_mem) (by k_all))
end
section
theorem clear_A4 : True := by
  k_with_none
  w_top off
  trivial
theorem chunk_break (v dv ln q d : Nat) (k : Nat → Nat) (ml : Int) (lines : Array Value) (nl n kt it : Nat) (i : Int) (tb tr : Array Value) (items : Array Value) (ps : List (Str × Str)) (f r : Str) (t t' : Tok) (G : GW w mean mg mb b₀) (gb : AllBare s.gens)
    (O : Own b₀ s.heap (vfS w.params v dv ln q d k ml lines nl items n kt i it tb tr)) (hT : TF s.heap items ps) (htb : TabOk posLen tb) (htr : TabOk posStr tr) (h0 : 200 < dv) (h1 : dv < v) (h2 : v < ln) (h3 : ln < d) (h4 : d < q)
    (hdp : dp < 790) (hun : un < 1900) (hi : i ≥ 0) (hi2 : i < 100) (hz : items.size ≤ 98) (hz1 : 1 ≤ items.size) (hzl : lines.size ≤ 98) (hps : Short (ps ++ [(f, r)])) (hps2 : Short ps) (hfit : ¬ i + lenP (ps ++ [(f, r)]) ≤ ml) (hf1 : 1 ≤ f.length) (hf2 : f.length ≤ 100) (hf0 : (Txt.item f 0 == Str.ofString " ") = true)
    (h : ∀ tp tb' tr' nl' n' it' t0 h' (gs : BG) tk', TabOk posLen tb' → TabOk posStr tr' → Own b₀ h' ((tp, tupObj f r t t') :: vfS w.params v dv ln q d k ml (lines.push (.str (txt ps) t0)) nl' #[.ref tp] n' kt 0 it' tb' tr') → Kp (vfS w.params v dv ln q d k ml lines nl items n kt i it tb tr) s.heap h' → s.heap.get? tp = none → R (.ok (.ret .none)) ⟨h', gs.1, s.drawn, tk', s.os⟩) :
    codeAny (model Challenge.rw_ph0143_01.row.prog w) (mkA dp un gd fs) (.call (.ref 112) ⟨[.ref v, .str f t, .str r t'], []⟩) R s := by
  obtain ⟨b1, b2, b3, b4, b5⟩ := addr5 h0 h1 h2 h3 h4
  have X := G.X
  have T := G.T
  have hlb := lenP_le hps.2
  have hlb2 := hps.1
  have hln := lenP_nonneg (ps ++ [(f, r)])
  revert X; k_fill; intro X
  k_dflt ktr_enter
  have hTg : TF _ items ps := (hT.kp O (by simp [accObj, dictOf, tabObj, instObj, W.listOf]) (by assumption))
  k_steps
  refine for_open ?_ (fun _ => rfl)
  k_steps
  rename Fr _ _ _ _ => F1
  rename News _ _ _ _ => N1
  refine iter_str F1 N1 (by decide +kernel) fun I o h1 S1 F2 N2 l2 => ?_
  clear F1 N1
  refine for_turn ?_
  refine' next_str F2 N2 (by tb_rel) S1 (c := 32) (by decide +kernel) fun o2 h2 S2 F1 N1 => ?_
  clear F2 N2
  dsimp only
  refine wpAny_of_eq rfl ?_
  k_steps
  refine for_open ?_ (fun _ => rfl)
  k_steps
  rename IsRange _ _ _ _ _ _ _ _ => R1
  rename Fr _ _ _ _ => F1
  rename News _ _ _ _ => N1
  rw [Array.size_push, show ((items.size + 1 : Nat) : Int) - 1 = items.size by omega] at R1
  obtain ⟨rd1, rd2⟩ := range_down items.size (by omega)
  refine iter_range F1 N1 R1 rd2 fun I3 h4 F2 N2 l4 => ?_
  clear F1 N1 R1
  rw [rd1] at N2
  refine for_turn ?_
  refine' next_range F2 N2 (by tb_rel) (by omega) fun h5 F1 N1 => ?_
  clear F2 N2
  dsimp only
  refine wpAny_of_eq rfl ?_
  k_steps
  dsimp only [ForPost]
  k_steps
  dsimp only [ForPost]
  k_steps
  exact h _ _ _ _ _ _ _ _ _ _ (by assumption) (by assumption) (by ktr_unf) (kp_of (by assumption) (by assumption)) (fresh_of (by assumption) (by assumption) (by k_mem) (by k_all))
end
end
section
local macro_rules | `(tactic| walk_at "call ref") => `(tactic| (k_here; (with_reducible show wpAny _ _ (call (Value.ref 77) _ _) _ _ _); k_dflt (refine' use_newline_last ?G ?gb ?b ?F ?N ?t ?h0 ?h1 ?h2 ?h3 ?h4 ?h5 ?h6 ?h7 ?h8 ?h9 ?h10 ?h11 ?h12 ?h13 ?h14 ?h15 ?h16 ?h17 ?h18 ?_; (case G => assumption); (case gb => first | assumption | exact Subtype.property _);  (case b => assumption); (case F | N => k_asm); (case t => tb_rel); (case h0 => k_caught0); (case h1 | h2 => assumption); (case h3 | h4 | h5 | h6 | h7 | h8 | h9 | h10 | h11 | h12 | h13 => ktr_units); (case h14 | h15 | h16 | h17 | h18 => assumption); k_whole; intro tb' tr' nl' n' it' t0' h' gs' tk' hb1 hb2 F' N'; (try k_sweep))))
local macro_rules | `(tactic| walk_at "call builtin:str.join") => `(tactic| (k_here; k_dflt (refine' join_lst ?a ?b ?c ?d ?_; (case a => k_asm); (case b => k_mem); (case c => first | assumption | exact strsAre_push (by assumption) _ _); (case d => assumption)); intro _ _))
section
theorem clear_S1 : True := by
  k_with_none
  w_top off
  trivial
theorem str_last (v dv ln q d : Nat) (k : Nat → Nat) (ml : Int) (lines : Array Value) (nl n kt it : Nat) (i : Int) (tb tr : Array Value) (items : Array Value) (val : Value) (ps : List (Str × Str)) (f r e : Str) (te : Tok) (yl : List Str) (G : GW w mean mg mb b₀) (gb : AllBare s.gens)
    (O : Own b₀ s.heap (vfS w.params v dv ln q d k ml lines nl (items.push val) n kt i it tb tr)) (hT : TF s.heap (items.push val) (ps ++ [(f, r)])) (htb : TabOk posLen tb) (htr : TabOk posStr tr) (h0 : 200 < dv) (h1 : dv < v) (h2 : v < ln) (h3 : ln < d) (h4 : d < q) (hdp : dp < 790) (hun : un < 1900)
    (hi : i ≥ 0) (hi2 : i < 100) (hz : lines.size ≤ 98) (hzi : (items.push val).size ≤ 100) (hr : r ≠ Str.ofString "") (hsh : SeqAt.shaped (.tuple [.str f, .str r]) = true) (hps : Short (ps ++ [(f, r)])) (hl : lenP (ps ++ [(f, r)]) > 0) (hw : Txt.isspace (txt (ps ++ [(f, r)])) = false)
    (hs : StrsAre lines.toList yl) (hok : JoinOk e (yl ++ [txt (ps ++ [(f, r)])]) = true)
    (h : ∀ tb' tr' t0 h' (gs : BG) tk', TabOk posLen tb' → TabOk posStr tr' → Own b₀ h' [(161, tabObj tb'), (168, tabObj tr')] → Kp (vfS w.params v dv ln q d k ml lines nl (items.push val) n kt i it tb tr) s.heap h' → R (.ok (.ret (.str (Txt.join e (yl ++ [txt (ps ++ [(f, r)])])) t0))) ⟨h', gs.1, s.drawn, tk', s.os⟩) :
    codeAny (model Challenge.rw_ph0143_01.row.prog w) (mkA dp un gd fs) (.call (.ref 63) ⟨[.ref v, .str e te], []⟩) R s := by
  obtain ⟨b1, b2, b3, b4, b5⟩ := addr5 h0 h1 h2 h3 h4
  have X := G.X
  have T := G.T
  revert X; k_fill; intro X
  k_dflt ktr_enter
  have hTg : TF _ (items.push val) (ps ++ [(f, r)]) := (hT.kp O (by simp [accObj, dictOf, tabObj, instObj, W.listOf]) (by assumption))
  k_steps
  exact h _ _ _ _ _ _ (by assumption) (by assumption) (by ktr_unf) (kp_of (by assumption) (by assumption))
theorem str_zero (v dv ln q d : Nat) (k : Nat → Nat) (ml : Int) (lines : Array Value) (nl n kt it : Nat) (tb tr : Array Value) (e : Str) (te : Tok) (yl : List Str) (G : GW w mean mg mb b₀) (gb : AllBare s.gens)
    (O : Own b₀ s.heap (vfS w.params v dv ln q d k ml lines nl #[] n kt 0 it tb tr)) (htb : TabOk posLen tb) (htr : TabOk posStr tr) (h0 : 200 < dv) (h1 : dv < v) (h2 : v < ln) (h3 : ln < d) (h4 : d < q) (hdp : dp < 790) (hun : un < 1900) (hz : lines.size ≤ 98)
    (hs : StrsAre lines.toList yl) (hok : JoinOk e yl = true)
    (h : ∀ tb' tr' t0 h' (gs : BG) tk', TabOk posLen tb' → TabOk posStr tr' → Own b₀ h' [(161, tabObj tb'), (168, tabObj tr')] → Kp (vfS w.params v dv ln q d k ml lines nl #[] n kt 0 it tb tr) s.heap h' → R (.ok (.ret (.str (Txt.join e yl) t0))) ⟨h', gs.1, s.drawn, tk', s.os⟩) :
    codeAny (model Challenge.rw_ph0143_01.row.prog w) (mkA dp un gd fs) (.call (.ref 63) ⟨[.ref v, .str e te], []⟩) R s := by
  obtain ⟨b1, b2, b3, b4, b5⟩ := addr5 h0 h1 h2 h3 h4
  have X := G.X
  have T := G.T
  revert X; k_fill; intro X
  k_dflt ktr_enter
  k_steps
  exact h _ _ _ _ _ _ (by assumption) (by assumption) (by ktr_unf) (kp_of (by assumption) (by assumption))
end
end
end
end
end
section
theorem clear_D3 : True := by
  k_with_none
  w_top off
  trivial
structure VFI (P : Params) (S : List (Addr × Obj)) (v : Nat) (ml : Int) (yl : List Str) (its : Array Value) (i : Int) : Prop where
  ex : ∃ (dv ln q d : Nat) (k : Nat → Nat) (lines : Array Value) (nl n kt it : Nat) (tb tr : Array Value), S = vfS P v dv ln q d k ml lines nl its n kt i it tb tr ∧ TabOk posLen tb ∧ TabOk posStr tr ∧ 200 < dv ∧ dv < v ∧ v < ln ∧ ln < d ∧ d < q ∧ StrsAre lines.toList yl
structure GoodP (p : Str × Str) : Prop where
  f1 : 1 ≤ p.1.length
  f2 : p.1.length ≤ 100
  f0 : (Txt.item p.1 0 == Str.ofString " ") = true
  r1 : p.2 ≠ Str.ofString ""
  r2 : p.2.length ≤ 100
  sh : SeqAt.shaped (.tuple [.str p.1, .str p.2]) = true
  ns : ∃ c ∈ p.2.cps.toList, Unicode.isSpace c = false
noncomputable def chunkF (ml : Int) (st : List Str × List (Str × Str) × Int) (p : Str × Str) : List Str × List (Str × Str) × Int :=
  if st.2.2 + lenP (st.2.1 ++ [p]) ≤ ml then (st.1, st.2.1 ++ [p], st.2.2)
  else if st.2.1 = [] then (if st.2.2 > 0 then (st.1 ++ [Str.ofString ""], [p], 0) else (st.1, [p], st.2.2))
  else (st.1 ++ [txt st.2.1], [p], 0)
theorem short_of {ps : List (Str × Str)} (h : ∀ p ∈ ps, GoodP p) (hl : ps.length ≤ 100) : Short ps := ⟨hl, fun p hp => ⟨(h p hp).f2, (h p hp).r2⟩⟩
theorem strsAre_len {vs : List Value} {ys : List Str} (h : StrsAre vs ys) : vs.length = ys.length := by
  induction h with
  | nil => rfl
  | cons _ _ _ ih => simp [ih]
theorem tf_own {h : Heap} {tp : Addr} {f r : Str} {t t' : Tok} {S : List (Addr × Obj)} (O : Own b₀ h ((tp, tupObj f r t t') :: S)) : h.get? tp = some (tupObj f r t t') := (O.mem _ (.head _)).1
theorem chunk_spec {S : List (Addr × Obj)} {v : Nat} {ml : Int} {yl : List Str} {its : Array Value} {ps : List (Str × Str)} {i : Int} {f r : Str} {t t' : Tok} (G : GW w mean mg mb b₀) (gb : AllBare s.gens) (V : VFI w.params S v ml yl its i) (O : Own b₀ s.heap S) (hT : TF s.heap its ps)
    (hp : ∀ p ∈ ps, GoodP p) (hg : GoodP (f, r)) (hdp : dp < 790) (hun : un < 1900) (hi : i ≥ 0) (hi2 : i < 100) (hn : ps.length ≤ 90) (hy : yl.length ≤ 90)
    (h : ∀ S' its' tp h' (gs : BG) tk', VFI w.params S' v ml (chunkF ml (yl, ps, i) (f, r)).1 its' (chunkF ml (yl, ps, i) (f, r)).2.2 → Own b₀ h' ((tp, tupObj f r t t') :: S') → Kp S s.heap h' → s.heap.get? tp = none → TF h' its' (chunkF ml (yl, ps, i) (f, r)).2.1 → (∀ p ∈ S', ∃ o, (p.1, o) ∈ S) → (∀ x ∈ its'.toList, x = Value.ref tp ∨ x ∈ its.toList) → R (.ok (.ret .none)) ⟨h', gs.1, s.drawn, tk', s.os⟩) :
    codeAny (model Challenge.rw_ph0143_01.row.prog w) (mkA dp un gd fs) (.call (.ref 112) ⟨[.ref v, .str f t, .str r t'], []⟩) R s := by
  obtain ⟨dv, ln, q, d, k, lines, nl, n, kt, it, tb, tr, rfl, htb, htr, h0, h1, h2, h3, h4, hs⟩ := V.ex
  have hsz := hT.1
  have hls : lines.size = yl.length := by have := strsAre_len hs; simpa using this
  have hall : ∀ p ∈ ps ++ [(f, r)], GoodP p := fun p hq => by
    rcases List.mem_append.mp hq with hq | hq
    · exact hp p hq
    · rw [List.mem_singleton.mp hq]; exact hg
  have hsh : Short (ps ++ [(f, r)]) := short_of hall (by simp; omega)
  have hsh2 : Short ps := short_of hp (by omega)
  have same : ∀ {lines' nl' its' n' i' it' tb' tr'}, ∀ p ∈ vfS w.params v dv ln q d k ml lines' nl' its' n' kt i' it' tb' tr', ∃ o, (p.1, o) ∈ vfS w.params v dv ln q d k ml lines nl its n kt i it tb tr := by
    intro lines' nl' its' n' i' it' tb' tr' p hp
    simp only [List.mem_cons, List.not_mem_nil, or_false] at hp
    rcases hp with rfl | rfl | rfl | rfl | rfl | rfl | rfl
    · exact ⟨_, .head _⟩
    · exact ⟨_, .tail _ (.head _)⟩
    · exact ⟨_, .tail _ (.tail _ (.head _))⟩
    · exact ⟨_, .tail _ (.tail _ (.tail _ (.head _)))⟩
    · exact ⟨_, .tail _ (.tail _ (.tail _ (.tail _ (.head _))))⟩
    · exact ⟨_, .tail _ (.tail _ (.tail _ (.tail _ (.tail _ (.head _)))))⟩
    · exact ⟨_, .tail _ (.tail _ (.tail _ (.tail _ (.tail _ (.tail _ (.head _))))))⟩
  by_cases hfit : i + lenP (ps ++ [(f, r)]) ≤ ml
  · have e : chunkF ml (yl, ps, i) (f, r) = (yl, ps ++ [(f, r)], i) := by unfold chunkF; rw [if_pos hfit]
    rw [e] at h
    refine chunk_fits v dv ln q d k ml lines nl n kt it i tb tr its ps f r t t' G gb O hT htb h0 h1 h2 h3 h4 hdp hun hi hi2 (by omega) hsh hfit fun tp tb' n' h' gs tk' htb' O' K' hn' => ?_
    refine h _ _ tp h' gs tk' ⟨dv, ln, q, d, k, lines, nl, n', kt, it, tb', tr, rfl, htb', htr, h0, h1, h2, h3, h4, hs⟩ O' K' hn' ?_ same fun j hj => ?_
    · exact (hT.kp O (by simp [accObj, dictOf, tabObj, instObj, W.listOf]) K').push rfl (tf_own O')
    · rw [Array.toList_push] at hj
      rcases List.mem_append.mp hj with hj | hj
      · exact .inr hj
      · exact .inl (List.mem_singleton.mp hj)
  · by_cases hps : ps = []
    · subst hps
      have hi0 : its = #[] := Array.eq_empty_of_size_eq_zero (by simpa using hsz)
      subst hi0
      by_cases hpos : i > 0
      · have e : chunkF ml (yl, [], i) (f, r) = (yl ++ [Str.ofString ""], [(f, r)], 0) := by unfold chunkF; rw [if_neg hfit, if_pos rfl, if_pos hpos]
        rw [e] at h
        refine chunk_head v dv ln q d k ml lines nl n kt it i tb tr f r t t' G gb O htb htr h0 h1 h2 h3 h4 hdp hun hsh hfit hg.f1 hg.f2 hpos hi2 (by omega) fun tp tb' tr' nl' n' it' t0 h' gs tk' htb' htr' O' K' hn' => ?_
        refine h _ _ tp h' gs tk' ⟨dv, ln, q, d, k, _, nl', n', kt, it', tb', tr', rfl, htb', htr', h0, h1, h2, h3, h4, strsAre_push hs _ _⟩ O' K' hn' (TF.one (tf_own O')) same fun j hj => ?_
        exact .inl (List.mem_singleton.mp hj)
      · have hz : i = 0 := by omega
        subst hz
        have e : chunkF ml (yl, [], 0) (f, r) = (yl, [(f, r)], 0) := by unfold chunkF; rw [if_neg hfit, if_pos rfl, if_neg (by simp)]
        rw [e] at h
        refine chunk_alone v dv ln q d k ml lines nl n kt it tb tr f r t t' G gb O htb h0 h1 h2 h3 h4 hdp hun hsh hfit fun tp tb' n' h' gs tk' htb' O' K' hn' => ?_
        refine h _ _ tp h' gs tk' ⟨dv, ln, q, d, k, lines, nl, n', kt, it, tb', tr, rfl, htb', htr, h0, h1, h2, h3, h4, hs⟩ O' K' hn' (TF.one (tf_own O')) same fun j hj => ?_
        exact .inl (List.mem_singleton.mp hj)
    · have e : chunkF ml (yl, ps, i) (f, r) = (yl ++ [txt ps], [(f, r)], 0) := by unfold chunkF; rw [if_neg hfit, if_neg hps]
      rw [e] at h
      have hpl : 1 ≤ ps.length := by cases ps with | nil => exact absurd rfl hps | cons _ _ => simp
      refine chunk_break v dv ln q d k ml lines nl n kt it i tb tr its ps f r t t' G gb O hT htb htr h0 h1 h2 h3 h4 hdp hun hi hi2 (by omega) (by omega) (by omega) hsh hsh2 hfit hg.f1 hg.f2 hg.f0 fun tp tb' tr' nl' n' it' t0 h' gs tk' htb' htr' O' K' hn' => ?_
      refine h _ _ tp h' gs tk' ⟨dv, ln, q, d, k, _, nl', n', kt, it', tb', tr', rfl, htb', htr', h0, h1, h2, h3, h4, strsAre_push hs _ _⟩ O' K' hn' (TF.one (tf_own O')) same fun j hj => ?_
      exact .inl (List.mem_singleton.mp hj)
end
section
theorem clear_D4 : True := by
  k_with_none
  w_top off
  trivial
variable {A : Around} {E : Value → Shared → Prop} {Q : Value → Shared → Prop} {g : Heap} {L : Addr} {m : Str → Option Value} {news rest : List (Addr × Obj)}
theorem use_newvf {hl ml : Int} {tl tm t1 t2 : Tok} (G : GW w mean mg mb b₀) (bg : ∀ b o, b₀.get? b = some o → g.get? b = some o) (F : Fr g L s.heap m) (N : News g L s.heap news)
    (hdp : dp < 780) (hun : un < 1800)
    (h : ∀ v dv ln q d k kt h' tk', @LT.lt Nat _ 200 dv → @LT.lt Nat _ dv v → @LT.lt Nat _ v ln → @LT.lt Nat _ ln d → @LT.lt Nat _ d q → (∀ p ∈ news, @LT.lt Nat _ p.1 dv) → Fr g L h' m → News g L h' ((v, instObj 115 dv) :: (dv, vfD w.params k ml ln q) :: (ln, listOf #[] 0) :: (q, accObj d #[] 0) :: (d, dictOf [initEnt w.params kt hl tl] 1) :: news) →
      Q (.ref v) ⟨h', s.gens, s.drawn, tk', s.os⟩) :
    wpAny (model Challenge.rw_ph0143_01.row.prog w) (mkA dp un gd fs) (call (.ref 115) [.int hl tl, .int ml tm, .str (Str.ofString " ") t1, .str (Str.ofString " ") t2]) Q E s := by
  have X := G.X
  revert X; k_fill; intro X
  have X1 : (hd.heap_1 w.params).In s.heap := X.keeps fun b o e => F.keep b o (bg b o e)
  have h239 : (239 : Nat) < s.heap.objs.size := by
    cases hq : (hd.heap_1 w.params).lookup 239 with
    | none => exact absurd hq (by intro e; have : ((hd.heap_1 w.params).lookup 239).isSome = true := by kernel_rfl
                                  rw [e] at this; cases this)
    | some o => exact Heap.lt_size (X1 _ _ hq)
  obtain ⟨hh, gg, dd, tt, oo⟩ := s
  refine wpAny_call (make_core (C := 115) (init := .ref 56) (makes_of X1 (by kernel_rfl)) (looks_findIn X1 (by k_is)) (fun self => bind_fn X1 self (by k_is)) (.inl rfl) ?_)
  have F1 := (F.push emptyDict).push (instObj 115 hh.objs.size)
  have N1 := (N.push F emptyDict).push (F.push _) (instObj 115 hh.objs.size)
  rw [Heap.size_push] at N1
  have lt1 : ∀ p ∈ news, @LT.lt Nat _ p.1 hh.objs.size := fun p hp => Heap.lt_size (N p hp).1
  dsimp only at h239 F1 N1
  have O : Own b₀ ((hh.push emptyDict).push (instObj 115 hh.objs.size)) [(hh.objs.size + 1, instObj 115 hh.objs.size), (hh.objs.size, dictOf [] 0)] := (own_of bg F1 N1).sub (by ktr_rel)
  refine vf_init (s := ⟨(hh.push emptyDict).push (instObj 115 hh.objs.size), gg, dd, tt, oo⟩) (hh.objs.size + 1) hh.objs.size hl ml tl tm t1 t2 G O (Nat.lt_succ_self _) (Nat.lt_trans (by decide) h239) ?_ ?_ fun ln q d k0 k1 k2 k3 k4 k5 k6 k7 k8 k9 kt h2 tk2 o1 o2 o3 O2 K2 n1 n2 n3 => ?_
  · show dp + 1 < 790
    omega
  · show un + 1 < 1900
    omega
  · rw [vfD_mk] at O2
    have tk : Take [(hh.objs.size + 1, instObj 115 hh.objs.size), (hh.objs.size, dictOf [] 0)] ((hh.objs.size + 1, instObj 115 hh.objs.size) :: (hh.objs.size, emptyDict) :: news) news := .cons (.head (by
      intro p hp
      rcases List.mem_cons.mp hp with rfl | hp
      · exact Nat.ne_of_lt (Nat.lt_succ_self _)
      · exact Nat.ne_of_lt (Nat.lt_succ_of_lt (lt1 p hp)))) (.cons (.head fun p hp => Nat.ne_of_lt (lt1 p hp)) .nil)
    obtain ⟨F2, N2⟩ := after F1 N1 tk K2 O2 (by
      refine List.forall_mem_cons.mpr ⟨.inl ⟨_, .head _⟩, List.forall_mem_cons.mpr ⟨.inl ⟨_, .tail _ (.head _)⟩, List.forall_mem_cons.mpr ⟨.inr n1, List.forall_mem_cons.mpr ⟨.inr n2, List.forall_mem_cons.mpr ⟨.inr n3, List.forall_mem_nil _⟩⟩⟩⟩⟩)
    exact ⟨rfl, h (hh.objs.size + 1) hh.objs.size ln q d _ kt h2 tk2 (Nat.lt_trans (by decide) h239) (Nat.lt_succ_self _) o1 o2 o3 lt1 F2 N2⟩
end
section
theorem clear_D5 : True := by
  k_with_none
  w_top off
  trivial
variable {A : Around} {E : Value → Shared → Prop} {Q : Value → Shared → Prop} {g : Heap} {L : Addr} {m : Str → Option Value} {news rest : List (Addr × Obj)}
noncomputable def TI (tups : List (Addr × Obj)) (its : Array Value) (ps : List (Str × Str)) : Prop :=
  its.size = ps.length ∧ (∀ p ∈ tups, p.2.cls = .type "tuple") ∧ ∀ j (hj : j < ps.length), ∃ tp t t', its[j]? = some (.ref tp) ∧ (tp, tupObj ps[j].1 ps[j].2 t t') ∈ tups
theorem TI.tf {h : Heap} {tups : List (Addr × Obj)} {its : Array Value} {ps : List (Str × Str)} (T : TI tups its ps) (hN : ∀ p ∈ tups, h.get? p.1 = some p.2) : TF h its ps :=
  ⟨T.1, fun j hj => let ⟨tp, t, t', a, b⟩ := T.2.2 j hj; ⟨tp, t, t', a, hN _ b⟩⟩
theorem TI.of {h : Heap} {tups : List (Addr × Obj)} {its : Array Value} {ps : List (Str × Str)} (T : TF h its ps) (hc : ∀ p ∈ tups, p.2.cls = .type "tuple") (hN : ∀ p ∈ tups, h.get? p.1 = some p.2) (hi : ∀ x ∈ its.toList, ∃ p ∈ tups, x = Value.ref p.1) : TI tups its ps :=
  ⟨T.1, hc, fun j hj => by
    obtain ⟨tp, t, t', a, b⟩ := T.2 j hj
    have hm : Value.ref tp ∈ its.toList := by
      have := Array.getElem?_eq_some_iff.mp a
      obtain ⟨hlt, e⟩ := this
      rw [← e]
      exact Array.getElem_mem_toList hlt
    obtain ⟨p, hp, e⟩ := hi _ hm
    injection e with e
    refine ⟨tp, t, t', a, ?_⟩
    have h1 := hN p hp
    rw [← e, b] at h1
    have : p = (tp, tupObj ps[j].1 ps[j].2 t t') := by
      rw [Option.some.inj h1, e]
    rw [← this]; exact hp⟩
theorem vfi_cls {P : Params} {S : List (Addr × Obj)} {v : Nat} {ml : Int} {yl : List Str} {its : Array Value} {i : Int} (V : VFI P S v ml yl its i) : ∀ p ∈ S, p.2.cls ≠ .type "tuple" ∧ p.2.cls ≠ .type "list_iterator" := by
  obtain ⟨dv, ln, q, d, k, lines, nl, n, kt, it, tb, tr, rfl, _⟩ := V.ex
  simp [accObj, dictOf, tabObj, instObj, W.listOf]
theorem use_chunk {S : List (Addr × Obj)} {v : Nat} {ml : Int} {yl : List Str} {its : Array Value} {ps : List (Str × Str)} {i : Int} {f r : Str} {t t' : Tok} (G : GW w mean mg mb b₀) (gb : AllBare s.gens) (bg : ∀ b o, b₀.get? b = some o → g.get? b = some o) (F : Fr g L s.heap m) (N : News g L s.heap news)
    (V : VFI w.params S v ml yl its i) (hS : ∀ p ∈ S, p ∈ news) (hr : ∀ p ∈ rest, p ∈ news) (hd : ∀ q ∈ rest, q.2.cls = .type "tuple" ∨ q.2.cls = .type "list_iterator") (hT : TF s.heap its ps)
    (hp : ∀ p ∈ ps, GoodP p) (hg : GoodP (f, r)) (hdp : dp < 790) (hun : un < 1900) (hi : i ≥ 0) (hi2 : i < 100) (hn : ps.length ≤ 90) (hy : yl.length ≤ 90)
    (h : ∀ S' its' tp h' (gs : BG) tk', VFI w.params S' v ml (chunkF ml (yl, ps, i) (f, r)).1 its' (chunkF ml (yl, ps, i) (f, r)).2.2 → Fr g L h' m → News g L h' (((tp, tupObj f r t t') :: S') ++ rest) → TF h' its' (chunkF ml (yl, ps, i) (f, r)).2.1 → (∀ x ∈ its'.toList, x = Value.ref tp ∨ x ∈ its.toList) → Q .none ⟨h', gs.1, s.drawn, tk', s.os⟩) :
    wpAny (model Challenge.rw_ph0143_01.row.prog w) (mkA dp un gd fs) (call (.ref 112) [.ref v, .str f t, .str r t']) Q E s := by
  have O : Own b₀ s.heap S := (own_of bg F N).sub hS
  refine wpAny_call (chunk_spec G gb V O hT hp hg hdp hun hi hi2 hn hy fun S' its' tp h' gs tk' V' O' K' hfr hT' hsame hits => ?_)
  obtain ⟨F', N'⟩ := after_sem F N hS hr (fun p hp q hq e => by
    have := vfi_cls V p hp
    rw [e] at this
    rcases hd q hq with h1 | h1
    · exact this.1 h1
    · exact this.2 h1) K' O' (fun p hp => by
    rcases List.mem_cons.mp hp with rfl | hp
    · exact .inr hfr
    · exact .inl (hsame p hp))
  exact h S' its' tp h' gs tk' V' F' N' hT' hits
theorem fr_assign {h h' : Heap} {m' : Str → Option Value} (F : Fr g L h m) (N : News g L h news) (hn : h'.Ns L m') (k : ∀ c o, c ≠ L → h.get? c = some o → h'.get? c = some o) : Fr g L h' m' ∧ News g L h' news :=
  ⟨⟨hn, fun b o e => k b o (fun q => by have := Heap.lt_size e; have h2 := F.above; rw [q] at this; exact absurd (Nat.lt_of_lt_of_le this h2) (Nat.lt_irrefl _)) (F.keep b o e), F.above⟩, fun p hp => ⟨k _ _ (N p hp).2.1 (N p hp).1, (N p hp).2⟩⟩
noncomputable def foldF (ml head : Int) (ps : List (Str × Str)) : List Str × List (Str × Str) × Int := ps.foldl (chunkF ml) ([], [], head)
theorem foldF_snoc (ml head : Int) (ps : List (Str × Str)) (p : Str × Str) : foldF ml head (ps ++ [p]) = chunkF ml (foldF ml head ps) p := by unfold foldF; simp
theorem chunkF_inv (ml head : Int) (st : List Str × List (Str × Str) × Int) (p : Str × Str) (hg : GoodP p) (h1 : ∀ q ∈ st.2.1, GoodP q) (h2 : 0 ≤ st.2.2) (h3 : st.2.2 ≤ head) :
    (∀ q ∈ (chunkF ml st p).2.1, GoodP q) ∧ (chunkF ml st p).2.1.length ≤ st.2.1.length + 1 ∧ (chunkF ml st p).1.length ≤ st.1.length + 1 ∧ 0 ≤ (chunkF ml st p).2.2 ∧ (chunkF ml st p).2.2 ≤ head ∧ (chunkF ml st p).2.1 ≠ [] := by
  have one : ∀ q ∈ [p], GoodP q := fun q hq => by rw [List.mem_singleton.mp hq]; exact hg
  unfold chunkF
  split
  · refine ⟨fun q hq => ?_, by simp, by simp, h2, h3, by simp⟩
    rcases List.mem_append.mp hq with hq | hq
    · exact h1 q hq
    · exact one q hq
  · split
    · split
      · exact ⟨one, by simp, by simp, Int.le_refl _, Int.le_trans h2 h3, by simp⟩
      · exact ⟨one, by simp, by simp, h2, h3, by simp⟩
    · exact ⟨one, by simp, by simp, Int.le_refl _, Int.le_trans h2 h3, by simp⟩
theorem foldF_take (ml head : Int) (ps : List (Str × Str)) (j : Nat) (hj : j < ps.length) : foldF ml head (ps.take (j + 1)) = chunkF ml (foldF ml head (ps.take j)) ps[j] := by
  rw [List.take_add_one, List.getElem?_eq_getElem hj]
  exact foldF_snoc ..
theorem foldF_inv (ml head : Int) (hh : 0 ≤ head) (ps : List (Str × Str)) (hg : ∀ p ∈ ps, GoodP p) : ∀ j, j ≤ ps.length → (∀ p ∈ (foldF ml head (ps.take j)).2.1, GoodP p) ∧ (foldF ml head (ps.take j)).2.1.length ≤ j ∧ (foldF ml head (ps.take j)).1.length ≤ j ∧ 0 ≤ (foldF ml head (ps.take j)).2.2 ∧ (foldF ml head (ps.take j)).2.2 ≤ head ∧ (j ≠ 0 → (foldF ml head (ps.take j)).2.1 ≠ []) := by
  intro j
  induction j with
  | zero => exact fun _ => ⟨(fun _ h => nomatch h), Nat.le_refl _, Nat.le_refl _, hh, Int.le_refl _, fun h => absurd rfl h⟩
  | succ j ih =>
    intro hj
    obtain ⟨a, b, c, d, e, _⟩ := ih (by omega)
    rw [foldF_take ml head ps j hj]
    obtain ⟨a', b', c', d', e', f'⟩ := chunkF_inv ml head (foldF ml head (ps.take j)) ps[j] (hg _ (List.getElem_mem hj)) a d e
    exact ⟨a', by omega, by omega, d', e', fun _ => f'⟩
theorem list_kp {h h' : Heap} {l : Nat} {its : Array Value} {S : List (Addr × Obj)} (hl : h.IsList l its) (O : Own b₀ h S) (hn : ∀ p ∈ S, p.2.cls ≠ .type "list") (k : Kp S h h') : h'.IsList l its := by
  obtain ⟨o, ho, hc, r⟩ := hl
  refine ⟨o, k _ _ ho fun p hp e => hn p hp ?_, hc, r⟩
  have := (O.mem p hp).1
  rw [e, ho] at this
  rw [← Option.some.inj this]; exact hc
theorem vfi_new {P : Params} {v dv ln q d : Nat} {k : Nat → Nat} {ml i : Int} {kt it : Nat} {tb tr : Array Value} (htb : TabOk posLen tb) (htr : TabOk posStr tr) (h0 : 200 < dv) (h1 : dv < v) (h2 : v < ln) (h3 : ln < d) (h4 : d < q) :
    VFI P (vfS P v dv ln q d k ml #[] 0 #[] 0 kt i it tb tr) v ml [] #[] i := ⟨dv, ln, q, d, k, #[], 0, 0, kt, it, tb, tr, rfl, htb, htr, h0, h1, h2, h3, h4, .nil⟩
theorem fr_name {h : Heap} (F : Fr g L h m) : ∃ m0, m0 = m ∧ Fr g L h m0 := ⟨_, rfl, F⟩
end
section
theorem clear_D6 : True := by
  k_with_none
  w_top off
  trivial
variable {A : Around} {E : Value → Shared → Prop} {Q : Value → Shared → Prop} {g : Heap} {L : Addr} {m : Str → Option Value} {news rest : List (Addr × Obj)}
noncomputable def linesF (yl : List Str) (ps : List (Str × Str)) : List Str := if ps = [] then yl else yl ++ [txt ps]
theorem txt_ns {ps : List (Str × Str)} {p : Str × Str} (hp : p ∈ ps) (hg : GoodP p) : Txt.isspace (txt ps) = false := by
  obtain ⟨c, hc, hs⟩ := hg.ns
  unfold Txt.isspace
  rw [Bool.and_eq_false_iff]
  right
  rw [Array.all_eq_false']
  refine ⟨c, ?_, by simp [hs]⟩
  unfold txt
  simp only [List.mem_toArray, List.mem_flatMap, List.mem_append]
  exact ⟨p, hp, .inr hc⟩
theorem lenP_pos {ps : List (Str × Str)} {p : Str × Str} (hp : p ∈ ps) (hg : GoodP p) : lenP ps > 0 := by
  have h1 := hg.f1
  induction ps with
  | nil => cases hp
  | cons q r ih =>
    have e : lenP (q :: r) = (q.1.length : Int) + q.2.length + lenP r := by simp [lenP]
    have h2 := lenP_nonneg r
    rcases List.mem_cons.mp hp with rfl | hp
    · omega
    · have := ih hp
      omega
theorem arr_push (its : Array Value) (h : 1 ≤ its.size) : ∃ its' val, its = Array.push its' val := by
  rcases List.eq_nil_or_concat its.toList with e | ⟨l, v, e⟩
  · have := congrArg List.length e
    simp at this
    subst this
    simp at h
  · exact ⟨l.toArray, v, Array.ext' (by rw [Array.toList_push, e, List.concat_eq_append])⟩
theorem strf_spec {S : List (Addr × Obj)} {v : Nat} {ml : Int} {yl : List Str} {its : Array Value} {ps : List (Str × Str)} {i : Int} {e : Str} {te : Tok} (G : GW w mean mg mb b₀) (gb : AllBare s.gens) (V : VFI w.params S v ml yl its i) (O : Own b₀ s.heap S) (hT : TF s.heap its ps)
    (hp : ∀ p ∈ ps, GoodP p) (hdp : dp < 790) (hun : un < 1900) (hi : i ≥ 0) (hi2 : i < 100) (hn : ps.length ≤ 90) (hy : yl.length ≤ 90) (hc : ps = [] → i = 0) (hok : JoinOk e (linesF yl ps) = true)
    (h : ∀ tb' tr' t0 h' (gs : BG) tk', TabOk posLen tb' → TabOk posStr tr' → Own b₀ h' [(161, tabObj tb'), (168, tabObj tr')] → Kp S s.heap h' → ((∃ o, (161, o) ∈ S) ∧ ∃ o, (168, o) ∈ S) → R (.ok (.ret (.str (Txt.join e (linesF yl ps)) t0))) ⟨h', gs.1, s.drawn, tk', s.os⟩) :
    codeAny (model Challenge.rw_ph0143_01.row.prog w) (mkA dp un gd fs) (.call (.ref 63) ⟨[.ref v, .str e te], []⟩) R s := by
  obtain ⟨dv, ln, q, d, k, lines, nl, n, kt, it, tb, tr, rfl, htb, htr, h0, h1, h2, h3, h4, hs⟩ := V.ex
  have hsz := hT.1
  have hls : lines.size = yl.length := by have := strsAre_len hs; simpa using this
  have hmem : (∃ o, (161, o) ∈ vfS w.params v dv ln q d k ml lines nl its n kt i it tb tr) ∧ ∃ o, (168, o) ∈ vfS w.params v dv ln q d k ml lines nl its n kt i it tb tr := ⟨⟨_, .tail _ (.tail _ (.tail _ (.tail _ (.tail _ (.head _)))))⟩, ⟨_, .tail _ (.tail _ (.tail _ (.tail _ (.tail _ (.tail _ (.head _))))))⟩⟩
  rcases List.eq_nil_or_concat ps with rfl | ⟨ps', p, rfl⟩
  · have hi0 : its = #[] := Array.eq_empty_of_size_eq_zero (by simpa using hsz)
    have hz : i = 0 := hc rfl
    subst hi0 hz
    have el : linesF yl [] = yl := by unfold linesF; rw [if_pos rfl]
    rw [el] at hok h
    exact str_zero v dv ln q d k ml lines nl n kt it tb tr e te yl G gb O htb htr h0 h1 h2 h3 h4 hdp hun (by omega) hs hok fun tb' tr' t0 h' gs tk' a b c f => h tb' tr' t0 h' gs tk' a b c f hmem
  · rw [List.concat_eq_append] at *
    obtain ⟨f, r⟩ := p
    have hsz2 : its.size = ps'.length + 1 := by rw [hsz]; simp
    obtain ⟨its', val, rfl⟩ := arr_push its (by omega)
    have hg := hp (f, r) (by simp)
    have el : linesF yl (ps' ++ [(f, r)]) = yl ++ [txt (ps' ++ [(f, r)])] := by unfold linesF; rw [if_neg (by simp)]
    rw [el] at hok h
    have hlen : (ps' ++ [(f, r)]).length ≤ 90 := hn
    exact str_last v dv ln q d k ml lines nl n kt it i tb tr its' val ps' f r e te yl G gb O hT htb htr h0 h1 h2 h3 h4 hdp hun hi hi2 (by omega) (by omega) hg.r1 hg.sh (short_of hp (by omega)) (lenP_pos (List.mem_append.mpr (.inr (.head _))) hg) (txt_ns (List.mem_append.mpr (.inr (.head _))) hg) hs hok
      fun tb' tr' t0 h' gs tk' a b c f => h tb' tr' t0 h' gs tk' a b c f hmem
theorem use_strf {S : List (Addr × Obj)} {v : Nat} {ml : Int} {yl : List Str} {its : Array Value} {ps : List (Str × Str)} {i : Int} {e : Str} {te : Tok} (G : GW w mean mg mb b₀) (gb : AllBare s.gens) (bg : ∀ b o, b₀.get? b = some o → g.get? b = some o) (F : Fr g L s.heap m) (N : News g L s.heap news)
    (V : VFI w.params S v ml yl its i) (hS : ∀ p ∈ S, p ∈ news) (hT : TF s.heap its ps)
    (hp : ∀ p ∈ ps, GoodP p) (hdp : dp < 790) (hun : un < 1900) (hi : i ≥ 0) (hi2 : i < 100) (hn : ps.length ≤ 90) (hy : yl.length ≤ 90) (hc : ps = [] → i = 0) (hok : JoinOk e (linesF yl ps) = true)
    (h : ∀ tb' tr' t0 h' (gs : BG) tk', TabOk posLen tb' → TabOk posStr tr' → Fr g L h' m → News g L h' [(161, tabObj tb'), (168, tabObj tr')] → Q (.str (Txt.join e (linesF yl ps)) t0) ⟨h', gs.1, s.drawn, tk', s.os⟩) :
    wpAny (model Challenge.rw_ph0143_01.row.prog w) (mkA dp un gd fs) (call (.ref 63) [.ref v, .str e te]) Q E s := by
  have O : Own b₀ s.heap S := (own_of bg F N).sub hS
  refine wpAny_call (strf_spec G gb V O hT hp hdp hun hi hi2 hn hy hc hok fun tb' tr' t0 h' gs tk' a b O' K' hm => ?_)
  obtain ⟨F', N'⟩ := after_sem (rest := []) F N hS (fun _ h => absurd h List.not_mem_nil) (fun _ _ _ h => absurd h List.not_mem_nil) K' O' (List.forall_mem_cons.mpr ⟨.inl hm.1, List.forall_mem_cons.mpr ⟨.inl hm.2, List.forall_mem_nil _⟩⟩)
  exact h tb' tr' t0 h' gs tk' a b F' N'
end
section
theorem clear_L1 : True := by
  k_with_none
  w_top off
  trivial
theorem page_walk (l : Nat) (wl : Array Value) (ps : List (Str × Str)) (tb tr : Array Value) (head width : Int) (th tw te : Tok) (e : Str) (G : GW w mean mg mb b₀) (gb : AllBare s.gens)
    (O : Own b₀ s.heap [(161, tabObj tb), (168, tabObj tr)]) (hl : s.heap.IsList l wl) (hT : TF s.heap wl ps) (htb : TabOk posLen tb) (htr : TabOk posStr tr) (hdp : dp < 750) (hun : un < 1500) (hh : 0 ≤ head) (hh2 : head < 100) (hg : ∀ p ∈ ps, GoodP p) (hn : ps.length ≤ 80) (hc6 : (ps.length ≠ 0 → (foldF width head ps).2.1 ≠ []) → (foldF width head ps).2.1 = [] → (foldF width head ps).2.2 = 0) (hok : JoinOk e (linesF (foldF width head ps).1 (foldF width head ps).2.1) = true)
    (h : ∀ tb' tr' t0 h' (gs : BG) tk', TabOk posLen tb' → TabOk posStr tr' → Own b₀ h' [(161, tabObj tb'), (168, tabObj tr')] → Kp [(161, tabObj tb), (168, tabObj tr)] s.heap h' → R (.ok (.ret (.str (Txt.join e (linesF (foldF width head ps).1 (foldF width head ps).2.1)) t0))) ⟨h', gs.1, s.drawn, tk', s.os⟩) :
    codeAny (model Challenge.rw_ph0143_01.row.prog w) (mkA dp un gd fs) (.call (.ref 222) ⟨[.ref l, .int head th, .int width tw, .str e te], []⟩) R s := by
  have X := G.X
  have T := G.T
  revert X; k_fill; intro X
  k_dflt ktr_enter
  have hTg : TF _ wl ps := (hT.kp O (by simp [tabObj]) (by assumption))
  have hlg : Heap.IsList _ l wl := list_kp hl O (by simp [tabObj]) (by assumption)
  k_with "call ref" => (k_here; (with_reducible show wpAny _ _ (call (Value.ref 115) _ _) _ _ _); k_dflt (refine' use_newvf ?G ?b ?F ?N ?c1 ?c2 ?_; (case G => assumption); (case b => assumption); (case F => k_asm); (case N => k_asm); (case c1 => ktr_units); (case c2 => ktr_units); k_whole; intro v' dv' ln' q' d' k' kt' h' tk' o1 o2 o3 o4 o5 l1 F' N'; (try k_lt l1); (try k_sweep)))
  k_steps
  refine for_open ?_ (fun _ => rfl)
  k_steps
  rename Fr _ _ _ _ => F1
  rename News _ _ _ _ => N1
  refine iter_list F1 N1 (hlg.at fun o e => F1.keep _ _ e) fun I o h1 S1 F2 N2 l2 _ => ?_
  clear F1 N1
  obtain ⟨m0, em0, F3⟩ := fr_name F2
  have hwsz := hTg.1
  refine for_list (g := _) (fun j m news => (∀ y, y ≠ Str.ofString "gap" → y ≠ Str.ofString "word" → m y = m0 y) ∧ ∃ S tups its, news = S ++ tups ∧ VFI w.params S v' width (foldF width head (ps.take j)).1 its (foldF width head (ps.take j)).2.2 ∧ TI tups its (foldF width head (ps.take j)).2.1) rfl hlg ?_ _ ?_ wl.size 0 m0 _ o _ ⟨_, gb⟩ _ rfl (Nat.zero_le _) ⟨fun _ _ _ => rfl, _, [], #[], (List.append_nil _).symm, vfi_new htb htr o1 o2 o3 o4 o5, rfl, fun _ h => absurd h List.not_mem_nil, fun j hj => absurd hj (Nat.not_lt_zero _)⟩ F3 N2 S1 (fun p hp => Nat.ne_of_lt (l2 p hp))
  · intro j m news o h gs tk v s₀ hv J F N S hne
    obtain ⟨hm, S2, tups, its, rfl, V, hTI⟩ := J
    have hj : j < ps.length := by
      have := (Array.getElem?_eq_some_iff.mp hv).1
      omega
    obtain ⟨T1, t, t', hwj, hget⟩ := hTg.2 j hj
    rw [hwj] at hv
    cases hv
    refine owned_list N (.head _) S ?_
    refine kcp_assign (x := .str ps[j].1 t) (y := .str ps[j].2 t') rfl ⟨_, F.keep _ _ hget, rfl, _, rfl⟩ rfl rfl rfl F.ns fun h3 tk3 hns hk => ?_
    obtain ⟨F4, N4⟩ := fr_assign F N hns hk
    clear F N hns hk
    have em : (fun z => if z = Str.ofString "word" then some (Value.str ps[j].2 t') else if z = Str.ofString "gap" then some (Value.str ps[j].1 t) else m z) = fun z => if z = Str.ofString "word" then some (Value.str ps[j].2 t') else if z = Str.ofString "gap" then some (Value.str ps[j].1 t) else m0 z := by
      funext z
      by_cases h1 : z = Str.ofString "word"
      · simp [h1]
      · by_cases h2 : z = Str.ofString "gap"
        · simp [h2]
        · simp only [if_neg h1, if_neg h2]; exact hm z h2 h1
    rw [em, em0] at F4
    have hV := V
    obtain ⟨dv, ln, q, d, k, lines, nl, n, kt, it, tb2, tr2, rfl, hb1, hb2, q0, q1, q2, q3, q4, hs⟩ := V.ex
    simp only [List.cons_append, List.nil_append] at N4
    clear F2 F3 N2 O
    k_steps
    obtain ⟨a1, a2, a3, a4, a5, _⟩ := foldF_inv width head hh ps hg j (by omega)
    rename Fr _ _ _ _ => F5
    rename News _ _ _ _ => N5
    refine' use_chunk (S := vfS w.params v' dv ln q d k width lines nl its n kt _ it tb2 tr2) (rest := (I, o) :: tups) ?G ?gb ?b F5 N5 hV ?hS ?hr ?hd (hTI.tf ?hN) a1 (hg _ (List.getElem_mem hj)) ?c1 ?c2 a4 ?c3 ?c4 ?c5 ?_
    (case G => assumption)
    (case gb => first | assumption | exact Subtype.property _)
    (case b => assumption)
    (case hS => repeat' (first | exact List.forall_mem_nil _ | refine List.forall_mem_cons.mpr ⟨by k_mem, ?_⟩))
    (case hr => (refine List.forall_mem_cons.mpr ⟨by k_mem, fun p hp => ?_⟩; repeat (first | exact hp | refine List.Mem.tail _ ?_)))
    (case hd => exact List.forall_mem_cons.mpr ⟨.inr S.cls, fun p hp => .inl (hTI.2.1 p hp)⟩)
    (case hN => exact fun p hp => (N5 p (by repeat (first | exact hp | refine List.Mem.tail _ ?_))).1)
    (case c1 => ktr_units)
    (case c2 => ktr_units)
    (case c3 => omega)
    (case c4 => omega)
    (case c5 => omega)
    intro S3 its3 tp h6 gs6 tk6 V6 F6 N6 hT6 hits
    clear F5
    k_steps
    dsimp only [ForMid]
    have ef : foldF width head (ps.take (j + 1)) = chunkF width (foldF width head (ps.take j)) ps[j] := foldF_take width head ps j hj
    have htc : ∀ p ∈ (tp, tupObj ps[j].1 ps[j].2 t t') :: tups, p.2.cls = .type "tuple" := List.forall_mem_cons.mpr ⟨rfl, hTI.2.1⟩
    have N7 : News _ _ h6 ((I, o) :: (S3 ++ (tp, tupObj ps[j].1 ps[j].2 t t') :: tups)) := news_sub N6 (by
      intro p hp
      simp only [List.mem_cons, List.mem_append] at hp ⊢
      rcases hp with h | h | h | h <;> simp [h])
    refine ⟨_, S3 ++ (tp, tupObj ps[j].1 ps[j].2 t t') :: tups, o, h6, gs6, _, rfl, ⟨fun y y1 y2 => ?_, S3, _, its3, rfl, ?_, ?_⟩, F6, N7, S, lst_ne N7 S fun p hp => ?_⟩
    · rw [em0]
      simp only [if_neg y1, if_neg y2]
    · rw [ef]; exact V6
    · rw [ef]
      refine TI.of hT6 htc (fun p hp => (N7 p (List.mem_cons_of_mem _ (List.mem_append.mpr (.inr hp)))).1) fun x hx => ?_
      rcases hits x hx with rfl | hx
      · exact ⟨_, .head _, rfl⟩
      · have hx2 := Array.mem_toList_iff.mp hx
        obtain ⟨jj, hjj, rfl⟩ := Array.mem_iff_getElem.mp hx2
        obtain ⟨tp2, u, u', e1, e2⟩ := hTI.2.2 jj (by rw [← hTI.1]; exact hjj)
        rw [Array.getElem?_eq_getElem hjj] at e1
        exact ⟨_, List.mem_cons_of_mem _ e2, Option.some.inj e1⟩
    · rcases List.mem_append.mp hp with hp | hp
      · exact (vfi_cls V6 p hp).2
      · rw [htc p hp]; decide
  · intro m news h9 gs tk J F N
    obtain ⟨hm, S2, tups, its, rfl, V, hTI⟩ := J
    rw [hwsz, List.take_length] at V hTI
    have hV := V
    obtain ⟨dv, ln, q, d, k, lines, nl, n, kt, it, tb2, tr2, rfl, hb1, hb2, q0, q1, q2, q3, q4, hs⟩ := V.ex
    simp only [List.cons_append, List.nil_append] at N
    have em : m = fun z => if z = Str.ofString "word" then m (Str.ofString "word") else if z = Str.ofString "gap" then m (Str.ofString "gap") else m0 z := by
      funext z
      by_cases h1 : z = Str.ofString "word"
      · rw [h1, if_pos rfl]
      · by_cases h2 : z = Str.ofString "gap"
        · rw [h2, if_neg (by decide), if_pos rfl]
        · simp only [if_neg h1, if_neg h2]; exact hm z h2 h1
    rw [em, em0] at F
    clear F2 F3 N2 O em
    obtain ⟨a1, a2, a3, a4, a5, a6⟩ := foldF_inv width head hh ps hg ps.length (Nat.le_refl _)
    rw [List.take_length] at a1 a2 a3 a4 a5 a6
    k_steps
    rename Fr _ _ _ _ => F5
    rename News _ _ _ _ => N5
    refine' use_strf (S := vfS w.params v' dv ln q d k width lines nl its n kt _ it tb2 tr2) ?G ?gb ?b F5 N5 hV ?hS (hTI.tf ?hN) a1 ?c1 ?c2 a4 ?c3 ?c4 ?c5 ?c6 ?c7 ?_
    (case G => assumption)
    (case gb => first | assumption | exact Subtype.property _)
    (case b => assumption)
    (case hS => repeat' (first | exact List.forall_mem_nil _ | refine List.forall_mem_cons.mpr ⟨by k_mem, ?_⟩))
    (case hN => exact fun p hp => (N5 p (by repeat (first | exact hp | refine List.Mem.tail _ ?_))).1)
    (case c1 => ktr_units)
    (case c2 => ktr_units)
    (case c3 => omega)
    (case c4 => omega)
    (case c5 => omega)
    (case c6 => exact hc6 a6)
    (case c7 => exact hok)
    intro tb' tr' t0 h6 gs6 tk6 b1 b2 F6 N6
    clear F5 N5
    k_steps
    exact h _ _ _ _ _ _ b1 b2 (by ktr_unf) (kp_of (by assumption) F6)
end
end
end
end
section
theorem clear_L2 : True := by
  k_with_none
  w_top off
  trivial
theorem cram_fit (x : Str) (tx tm : Tok) (ml : Int) (G : GW w mean mg mb b₀) (O : Own b₀ s.heap []) (hdp : dp < 750) (hun : un < 1500) (hx : x.length ≤ 10000) (hf : (x.length : Int) ≤ ml)
    (h : ∀ h' tk', Own b₀ h' [] → Kp [] s.heap h' → R (.ok (.ret (.str x tx))) ⟨h', s.gens, s.drawn, tk', s.os⟩) :
    codeAny (model Challenge.rw_ph0143_01.row.prog w) (mkA dp un gd fs) (.call (.ref 42) ⟨[.str x tx, .int ml tm], []⟩) R s := by
  have X := G.X
  have T := G.T
  revert X; k_fill; intro X
  k_dflt ktr_enter
  k_steps
  dsimp only
  exact h _ _ (by ktr_unf) (kp_of (by assumption) (by assumption))
theorem cram_cut (x : Str) (tx tm : Tok) (ml : Int) (G : GW w mean mg mb b₀) (O : Own b₀ s.heap []) (hdp : dp < 750) (hun : un < 1500) (hx : x.length ≤ 10000) (hf : ¬ (x.length : Int) ≤ ml) (hm : -100 ≤ ml) (hm2 : ml ≤ 100)
    (h : ∀ a b t' h' tk', Own b₀ h' [] → Kp [] s.heap h' → R (.ok (.ret (.str (a ++ Str.ofString "..." ++ b) t'))) ⟨h', s.gens, s.drawn, tk', s.os⟩) :
    codeAny (model Challenge.rw_ph0143_01.row.prog w) (mkA dp un gd fs) (.call (.ref 42) ⟨[.str x tx, .int ml tm], []⟩) R s := by
  have X := G.X
  have T := G.T
  revert X; k_fill; intro X
  k_dflt ktr_enter
  k_steps
  exact h _ _ _ _ _ (by ktr_unf) (kp_of (by assumption) (by assumption))
end
section
local macro_rules | `(tactic| walk_at "call builtin:str.rstrip") => `(tactic| (k_here; (with_reducible show wpAny _ _ (call (Value.builtin "str.rstrip") [Value.str _ _]) _ _ _); (refine' SCL.rstrip (hsz := ?z) ?_; (case z => (refine Nat.le_trans (Nat.le_trans ((by assumption : ∀ a ∈ _, Str.length a ≤ _) _ (List.mem_of_getElem? (by assumption))) (by assumption)) ?_; rw [sizeLine_eq]; omega)); intro _ _ _)))
local macro_rules | `(tactic| walk_at "call builtin:str.rstrip") => `(tactic| (k_here; (with_reducible show wpAny _ _ (call (Value.builtin "str.rstrip") (Prod.snd _)) _ _ _); dsimp only))
local macro_rules | `(tactic| walk_at "truthy str") => `(tactic| (k_here; (with_reducible show wpAny _ _ (PySem.truthy (Value.str _ _)) _ _ _); (have hy9 := (by assumption : ∀ a ∈ _, Str.length a ≤ _) _ (List.mem_of_getElem? (by assumption))); (refine P.truthy_str (by omega) ?_)))
local macro_rules | `(tactic| walk_at "call builtin:str.join") => `(tactic| (k_here; k_dflt (refine' join_lst (its := (strValues _).toArray) ?a ?b ?c ?d ?_; (case a => k_asm); (case b => k_mem); (case c => assumption); (case d => first | assumption | (rw [(by assumption : List.map (fun x => x.fst) _ = Txt.split _ _)]; assumption))); intro _ _))
section
theorem clear_L3 : True := by
  k_with_none
  w_top off
  trivial
noncomputable def docR (x a b : Str) : Prop :=
  ((Txt.split (Txt.strip x) (Str.ofString "\n")).length = 1 ∧ (Txt.split (Txt.strip x) (Str.ofString "\n"))[0]? = some a ∧ b = Str.ofString "") ∨
  (2 ≤ (Txt.split (Txt.strip x) (Str.ofString "\n")).length ∧ (∃ y, (Txt.split (Txt.strip x) (Str.ofString "\n"))[1]? = some y ∧ (Txt.rstrip y).length = 0) ∧ (Txt.split (Txt.strip x) (Str.ofString "\n"))[0]? = some a ∧ b = Txt.join (Str.ofString "\n") ((Txt.split (Txt.strip x) (Str.ofString "\n")).drop 2)) ∨
  (2 ≤ (Txt.split (Txt.strip x) (Str.ofString "\n")).length ∧ (∃ y, (Txt.split (Txt.strip x) (Str.ofString "\n"))[1]? = some y ∧ (Txt.rstrip y).length ≠ 0) ∧ a = Str.ofString "" ∧ b = Txt.join (Str.ofString "\n") (Txt.split (Txt.strip x) (Str.ofString "\n"))) ∨
  (Txt.split (Txt.strip x) (Str.ofString "\n")).length = 0
theorem strsAre_drop {vs : List Value} {ys : List Str} (h : StrsAre vs ys) (n : Nat) : StrsAre (vs.drop n) (ys.drop n) := by
  induction h generalizing n with
  | nil => simp; exact .nil
  | cons y t _ ih =>
    cases n with
    | zero => exact .cons y t (by assumption)
    | succ n => exact ih n
theorem val_len (l : List (Str × Tok)) : (strValues l).length = l.length := by simp [strValues]
theorem splitdoc_spec (x : Str) (tx : Tok) (G : GW w mean mg mb b₀) (O : Own b₀ s.heap []) (hdp : dp < 750) (hun : un < 1500) (hx : x.length ≤ 10000)
    (h : ∀ a b tp t t' h' tk', docR x a b → Own b₀ h' [(tp, tupObj a b t t')] → Kp [] s.heap h' → s.heap.get? tp = none → R (.ok (.ret (.ref tp))) ⟨h', s.gens, s.drawn, tk', s.os⟩) :
    codeAny (model Challenge.rw_ph0143_01.row.prog w) (mkA dp un gd fs) (.call (.ref 28) ⟨[.str x tx], []⟩) R s := by
  have X := G.X
  have T := G.T
  have hj0 := split_joinOk (x := Txt.strip x) (y := Str.ofString "\n") (by decide) (Nat.le_trans (fact_strip x) (Nat.le_trans hx (by decide))) 0
  rw [List.drop_zero] at hj0
  have hj2 := split_joinOk (x := Txt.strip x) (y := Str.ofString "\n") (by decide) (Nat.le_trans (fact_strip x) (Nat.le_trans hx (by decide))) 2
  revert X; k_fill; intro X
  k_dflt ktr_enter
  k_steps
  · rename (List.map _ _ = Txt.split _ _) => hk
    refine h _ _ _ _ _ _ _ (.inl ⟨?_, ?_, rfl⟩) (by ktr_unf) (kp_of (by assumption) (by assumption)) (fresh_of (by assumption) (by assumption) (by k_mem) (by k_all))
    · rw [← hk, List.length_map]; omega
    · rw [← hk]; assumption
  · rename (List.map _ _ = Txt.split _ _) => hk
    rename News _ _ _ _ => N1
    refine' join_lst (its := (strValues _).toArray) N1 ?b ?c ?d ?_
    (case b => k_mem)
    (case c => assumption)
    (case d => (rw [hk]; assumption))
    intro _ _
    k_steps
    refine' h _ _ _ _ _ _ _ (.inr (.inr (.inl ⟨?p1, ⟨?yy, ?p2, ?p3⟩, rfl, ?p4⟩))) (by ktr_unf) (kp_of (by assumption) (by assumption)) (fresh_of (by assumption) (by assumption) (by k_mem) (by k_all))
    (case p2 => rw [← hk]; assumption)
    (case p1 => rw [← hk, List.length_map]; omega)
    (case p3 => omega)
    (case p4 => rw [hk])
  · dsimp only at *
    rename (List.map _ _ = Txt.split _ _) => hk
    rename StrsAre _ _ => hs
    rename News _ _ _ _ => N1
    rw [show (some 2 : Option Int) = some ((2 : Nat) : Int) from rfl, slicePick_from _ 2 (by rw [List.size_toArray, val_len]; omega)] at N1
    refine' join_lst (its := (List.drop 2 _).toArray) (yl := List.drop 2 _) N1 ?b ?c ?d ?_
    (case b => k_mem)
    (case c => exact strsAre_drop hs 2)
    (case d => (rw [hk]; assumption))
    intro _ _
    k_steps
    refine' h _ _ _ _ _ _ _ (.inr (.inl ⟨?p1, ⟨?yy, ?p2, ?p3⟩, ?p4, ?p5⟩)) (by ktr_unf) (kp_of (by assumption) (by assumption)) (fresh_of (by assumption) (by assumption) (by k_mem) (by k_all))
    (case p2 => rw [← hk]; (first | assumption | exact (by assumption : (List.map _ _)[Int.toNat 1]? = some _)))
    (case p1 => rw [← hk, List.length_map]; omega)
    (case p3 => omega)
    (case p4 => rw [← hk]; assumption)
    (case p5 => rw [hk])
  · rename (List.map _ _ = Txt.split _ _) => hk
    rename News _ _ _ _ => N1
    refine' join_lst (its := (strValues _).toArray) N1 ?b ?c ?d ?_
    (case b => k_mem)
    (case c => assumption)
    (case d => (rw [hk]; assumption))
    intro _ _
    k_steps
    refine' h _ _ _ _ _ _ _ (.inr (.inr (.inr ?p1))) (by ktr_unf) (kp_of (by assumption) (by assumption)) (fresh_of (by assumption) (by assumption) (by k_mem) (by k_all))
    (case p1 => rw [← hk, List.length_map]; omega)
end
section
theorem clear_L4 : True := by
  k_with_none
  w_top off
  trivial
theorem replace_spec (x y z : Str) (tx ty tz : Tok) (G : GW w mean mg mb b₀) (O : Own b₀ s.heap []) (hdp : dp < 750) (hun : un < 1500) (hx : x.length ≤ 10000) (hy : (y.length == 0) = false) (hz : JoinOk z (Txt.split x y) = true)
    (h : ∀ t' h' tk', Own b₀ h' [] → Kept s.heap h' → R (.ok (.ret (.str (Txt.join z (Txt.split x y)) t'))) ⟨h', s.gens, s.drawn, tk', s.os⟩) :
    codeAny (model Challenge.rw_ph0143_01.row.prog w) (mkA dp un gd fs) (.call (.ref 35) ⟨[.str x tx, .str y ty, .str z tz], []⟩) R s := by
  have X := G.X
  have T := G.T
  revert X; k_fill; intro X
  k_dflt (refine' enter_rest (vs := [.str y ty, .str z tz]) ?k1 ?k2 ?k3 ?k6 ?k7 ?k8 ?k9 ?kg ?kB ?_ ?c2 ?c3 ?c4 ?c5; (case k1 => k_asm); (case k2 => k_asm); (case k3 => k_asm); (case k6 => k_is); (case k7 => k_is); (case k8 => first | assumption | (simp only [recursionLimit]; omega)); (case k9 => with_unfolding_all rfl); (case kg => exact fun _ => rfl); (case kB => exact fun _ => locs rfl); (case c2 => exact rfl); (case c3 => exact rfl); (case c4 => exact rfl); (case c5 => decide); k_whole)
  intro D g L h₁ bg F N Xg Tg hid lt1 lt2
  (try dsimp only)
  k_with "call builtin:str.split" => (k_here; (with_reducible show wpAny _ _ (call (Value.builtin "str.split") _) _ _ _); (refine KSpl.split1 (by k_asm) (by k_asm) hy ?_ (by rw [sizeLine_eq]; omega)); intro D l h' k e hs F' N' lt; (try k_lt lt))
  k_steps
  rename (List.map _ _ = Txt.split _ _) => hk
  rename News _ _ _ _ => N1
  refine' join_lst (its := (strValues _).toArray) N1 ?b ?c ?d ?_
  (case b => k_mem)
  (case c => assumption)
  (case d => (rw [hk]; assumption))
  intro t9 k9
  rw [hk]
  k_steps
  rename News _ _ _ _ => N2
  rename Fr _ _ _ _ => F2
  with_unfolding_all refine slice_tuple_from (a := 2) (items := #[.str y ty, .str z tz]) F2 N2 (News.isTup N2 (by k_mem)) (by decide) (Nat.le_refl 2) ?_
  intro h' F' N'
  clear F2 N2
  k_steps
  exact h _ _ _ (by ktr_unf) (kept_of (by assumption) (by assumption))
end
section
theorem clear_L5 : True := by
  k_with_none
  w_top off
  trivial
noncomputable def catP (p : Str × Str) : Str := p.1 ++ p.2
theorem text_spec (l : Nat) (wl : Array Value) (ps : List (Str × Str)) (G : GW w mean mg mb b₀) (gb : AllBare s.gens) (O : Own b₀ s.heap []) (hl : s.heap.IsList l wl) (hT : TF s.heap wl ps) (hdp : dp < 750) (hun : un < 1500) (hn : ps.length ≤ 80) (hlen : ∀ p ∈ ps, p.1.length ≤ 200 ∧ p.2.length ≤ 200)
    (hok : JoinOk (Str.ofString "") (ps.map catP) = true)
    (h : ∀ t' h' (gs : BG) tk', Own b₀ h' [] → Kept s.heap h' → R (.ok (.ret (.str (Txt.join (Str.ofString "") (ps.map catP)) t'))) ⟨h', gs.1, s.drawn, tk', s.os⟩) :
    codeAny (model Challenge.rw_ph0143_01.row.prog w) (mkA dp un gd fs) (.call (.ref 215) ⟨[.ref l], []⟩) R s := by
  have X := G.X
  have T := G.T
  revert X; k_fill; intro X
  k_dflt ktr_enter
  have hTg : TF _ wl ps := (hT.kp O (by simp) (by assumption))
  have hlg : Heap.IsList _ l wl := list_kp hl O (by simp) (by assumption)
  k_dflt (refine wpAny_execs_cons (wpAny_Return_some (MethodCall_ (Calls.Constant_str (GM.join (callWith_method1 (Calls.spliced_cons ?_)))))))
  rename Fr _ _ _ _ => F1
  rename News _ _ _ _ => N1
  rename (∀ b o, Heap.get? s.heap b = some o → _ → _) => hid
  refine comp1 rfl rfl (by decide) rfl (by decide) (fun _ => rfl) ?_
  refine wpAny_Name (wpAny_loadName_local rfl rfl F1.ns rfl ?_)
  refine ⟨l, wl, fun j ys => StrsAre ys ((ps.take j).map catP), rfl, gb, hlg.at fun o e => F1.keep _ _ e, ?_, ?_, ?_, ?_, .nil, ?_⟩
  · rw [hTg.1, sizeLine_eq]; omega
  · intro j ys hs
    rw [strsAre_len hs, List.length_map]
    exact List.length_take_le _ _
  · intro j v hv I l i s Q E hit hQ
    obtain ⟨T1, t, t', hwj, hget⟩ := hTg.2 j (by have := (Array.getElem?_eq_some_iff.mp hv).1; have := hTg.1; omega)
    rw [hwj] at hv
    cases hv
    exact wpAny_letOwnedTupleGo_listiter hit hQ
  · intro C j v ys hv J m h gs tk E kk hC nn
    have hj : j < ps.length := by have := (Array.getElem?_eq_some_iff.mp hv).1; have := hTg.1; omega
    obtain ⟨T1, t, t', hwj, hget⟩ := hTg.2 j hj
    rw [hwj] at hv
    cases hv
    have hz := hlen _ (List.getElem_mem hj)
    refine kcp_assign (x := .str ps[j].1 t) (y := .str ps[j].2 t') rfl ⟨_, kk _ _ (F1.keep _ _ hget), rfl, _, rfl⟩ rfl rfl rfl nn fun h3 tk3 hns hk => ?_
    refine wpAny_tests_nil ⟨h3, gs, tk3, _, rfl, hk, hns, ?_⟩
    rw [if_pos rfl]
    refine wpAny_BinOp (wpAny_Name (wpAny_loadName_local rfl rfl hns rfl (wpAny_Name (wpAny_loadName_local rfl rfl hns rfl (add_str (fun t2 tk2 => ⟨h3, gs, tk2, rfl, Kept.refl _, ?_⟩) (by rw [sizeLine_eq]; omega))))))
    show StrsAre _ ((ps.take (j + 1)).map catP)
    rw [List.take_succ_eq_append_getElem hj, List.map_append]
    exact strsAre_snoc J _ _
  · intro D h2 gs tk ys J k hD d
    have J : StrsAre ys ((ps.take wl.size).map catP) := J
    rw [hTg.1, List.take_length] at J
    obtain ⟨l2, e, ht⟩ := strsAre_values J
    subst e
    refine Calls.spliced_nil ?_
    refine SC.join (l := l2) ⟨_, d, rfl, _, rfl⟩ ht hok fun t' k' => ?_
    refine h _ _ _ _ ⟨fun b o e => k _ _ (F1.keep _ _ ((by assumption : ∀ b o, b₀.get? b = some o → Heap.get? _ b = some o) b o e)), fun _ q => absurd q List.not_mem_nil⟩ fun b o e => k _ _ (F1.keep _ _ (hid b o e fun _ q => absurd q List.not_mem_nil))
end
section
theorem clear_L6 : True := by
  k_with_none
  w_top off
  trivial
noncomputable def wordP (x : Int) : Str × Str := (Txt.mul (Str.ofString " ") (1 + (x.fdiv 6).fmod 2), Txt.mul (Txt.item (Str.ofString "abcdef") ((x.fdiv 12).fmod 6)) (1 + x.fmod 6))
noncomputable def wordsF (ks : List Int) : List (Str × Str) := [(Str.ofString " ", Str.ofString "the"), (Str.ofString "  ", Str.ofString "page"), (Str.ofString " ", Str.ofString "is"), (Str.ofString " ", Str.ofString "laid")] ++ ks.map wordP
theorem append_sem {prog : Program} {A : Around} {E : Value → Shared → Prop} {g : Heap} {L lw : Addr} {m : Str → Option Value} {news rest : List (Addr × Obj)} {wl : Array Value} {n : Nat} {x : Value} {Q : Value → Shared → Prop} (F : Fr g L s.heap m) (N : News g L s.heap news) (hm : (lw, listOf wl n) ∈ news) (hr : ∀ p ∈ rest, p ∈ news ∧ p.1 ≠ lw) (hsz : wl.size ≤ sizeLine)
    (h : ∀ h', Fr g L h' m → News g L h' ((lw, listOf (wl.push x) (n + 1)) :: rest) → Q .none { s with heap := h' }) : wpAny (model prog w) A (call (.builtin "list.append") [.ref lw, x]) Q E s := by
  have z := N _ hm
  refine append_at (hsz := hsz) z.1 fun h' hs ho' => h h' (F.change hs z.2.1 z.2.2) fun p hp => ?_
  rcases List.mem_cons.mp hp with rfl | hp
  · exact ⟨ho', z.2⟩
  · obtain ⟨a, b⟩ := hr p hp
    exact ⟨hs.extBut _ _ b (N p a).1, (N p a).2⟩
theorem item_len (x : Str) (i : Int) : (Txt.item x i).length ≤ 1 := by
  unfold Txt.item
  cases Txt.charAt x i <;> simp [Str.length]
theorem mulOk_small {x : Str} {n : Int} (hx : x.length ≤ 1) (h1 : 1 ≤ n) (h2 : n ≤ 10) : MulOk x n := by
  refine ⟨by simp only [Bool.or_eq_false_iff, decide_eq_false_iff_not]; omega, fun _ _ => ?_, fun _ _ => ?_⟩
  · have : (1 : Int) ≤ (2 ^ 63 - 1) / n := Int.le_ediv_of_mul_le (by omega) (by omega)
    omega
  · simp only [Builtin.Str.tooLong, decide_eq_false_iff_not, sizeLine_eq]
    have : x.length * n.toNat ≤ 1 * 10 := Nat.mul_le_mul hx (by omega)
    omega
local macro_rules | `(tactic| walk_at "binaryOp Mult str int") => `(tactic| (k_here; (with_reducible show wpAny _ _ (binaryOp _ (Value.str (Txt.item _ _) _) (Value.int _ _)) _ _ _); (refine SB.mul (mulOk_small (item_len _ _) (by omega) (by omega)) ?_); intro _ _))
local macro_rules | `(tactic| walk_at "exec For Name Subscript cons nil") => `(tactic| (k_here; (with_reducible show wpAny _ _ (exec (Stmt.For _ _ _ _ _) _) _ _ _); k_dflt (refine for_open ?_ (fun _ => rfl)); k_whole))
local macro_rules | `(tactic| walk_at "pyIter ref") => `(tactic| (k_here; (with_reducible show wpAny _ _ (pyIter (Value.ref _)) _ _ _); (rename Fr _ _ _ _ => F1); (rename News _ _ _ _ => N1); (refine iter_list F1 N1 (N1.isList (by k_mem)) ?_); intro I o h1 S1 F2 N2 l2 up; clear F1 N1))
theorem words_spec (l : Nat) (vs : List Value) (ns : List Int) (G : GW w mean mg mb b₀) (gb : AllBare s.gens) (O : Own b₀ s.heap []) (hl : s.heap.IsList l vs.toArray) (hi : IntsAre vs ns) (hdp : dp < 750) (hun : un < 1500) (hn : ns.length ≤ 80)
    (h : ∀ (l' : Addr) wl h' (gs : BG) tk', h'.IsList l' wl → TF h' wl (wordsF (ns.take 6)) → Own b₀ h' [] → Kept s.heap h' → R (.ok (.ret (.ref l'))) ⟨h', gs.1, s.drawn, tk', s.os⟩) :
    codeAny (model Challenge.rw_ph0143_01.row.prog w) (mkA dp un gd fs) (.call (.ref 210) ⟨[.ref l], []⟩) R s := by
  have X := G.X
  have T := G.T
  revert X; k_fill; intro X
  k_dflt ktr_enter
  have hlg : Heap.IsList _ l vs.toArray := list_kp hl O (by simp) (by assumption)
  k_steps
  rename IntsAre _ (List.take 6 ns) => hi6
  rename LstIt _ _ _ => S1
  rename Fr _ _ _ _ => F2
  rename News _ _ _ _ => N2
  rename_i gg LL _ bg XX TT hid _ D4 _ _ D3 _ _ D2 _ _ D1 _ _ lw _ _ _ DS ws _ hC hL _ I o h1 l2 up
  obtain ⟨m0, em0, F3⟩ := fr_name F2
  have hws : ws.length = (ns.take 6).length := hi6.length
  refine for_list2 (g := gg) (its := ws.toArray) (fun j m news => (∀ y, y ≠ Str.ofString "x" → m y = m0 y) ∧ ∃ wl n tups, news = (DS, listOf ws.toArray 0) :: (lw, listOf wl n) :: tups ∧ TI tups wl (wordsF ((ns.take 6).take j))) rfl (fun j m news h J F N => ?_) ?_ s ?_ ws.length 0 m0 _ o h1 ⟨_, gb⟩ _ rfl (Nat.zero_le _) ⟨fun _ _ => rfl, _, _, _, rfl, ?_⟩ F3 N2 S1 (fun p hp => Nat.ne_of_lt (l2 p hp))
  · obtain ⟨_, wl, n, tups, rfl, _⟩ := J
    exact News.isList N (.head _)
  · intro j m news o h gs tk v s₀ hv J F N S hne
    obtain ⟨hm, wl, n, tups, rfl, hTI⟩ := J
    obtain ⟨k, t, rfl, hkj⟩ := hi6.at j v (by simpa using hv)
    have hne2 : ∀ p ∈ tups, p.1 ≠ lw := fun p hp q => by
      have h1 := (N (lw, listOf wl n) (by simp)).1
      have h2 := (N p (by simp [hp])).1
      rw [q, h1] at h2
      have h3 := hTI.2.1 p hp
      rw [← Option.some.inj h2] at h3
      exact absurd h3 (by simp)
    have hIne : lw ≠ I := hne _ (.tail _ (.head _))
    have hwz : wl.size ≤ 20 := by
      rw [hTI.1]
      simp only [wordsF, List.length_append, List.length_map, List.length_cons, List.length_nil, List.length_take]
      omega
    k_dflt (refine wpAny_pure ?_)
    k_dflt (refine wpAny_assign_Name (wpAny_storeName_local rfl F.ns (fun h3 hns hk => ?_) rfl))
    obtain ⟨F4, N4⟩ := fr_assign F N hns hk.extBut
    clear F N hns hk
    have em : (fun z => if z = Str.ofString "x" then some (Value.int k t) else m z) = fun z => if z = Str.ofString "x" then some (Value.int k t) else m0 z := by
      funext z
      by_cases h1 : z = Str.ofString "x"
      · simp [h1]
      · simp only [if_neg h1]; exact hm z h1
    rw [em, em0] at F4
    clear F2 F3 N2 O
    have f1 : 0 ≤ k.fmod 6 ∧ k.fmod 6 < 6 := ⟨Int.fmod_nonneg_of_pos _ (by decide), Int.fmod_lt_of_pos _ (by decide)⟩
    k_steps
    rename Fr _ _ _ _ => F5
    rename News _ _ _ _ => N5
    rename_i t1 _ _ _ _ t2 _ T9 _ _
    refine append_sem (rest := (T9, tupObj (wordP k).1 (wordP k).2 t1 t2) :: (I, o) :: (DS, listOf ws.toArray 0) :: tups) F5 N5 (by k_mem) ?_ ?_ ?_
    · exact List.forall_mem_cons.mpr ⟨⟨.head _, by k_ne⟩, List.forall_mem_cons.mpr ⟨⟨.tail _ (.head _), Ne.symm hIne⟩, List.forall_mem_cons.mpr ⟨⟨.tail _ (.tail _ (.head _)), by k_ne⟩, fun p hp => ⟨by simp [hp], hne2 p hp⟩⟩⟩⟩
    · rw [sizeLine_eq]; omega
    · intro h' F' N'
      clear F5 N5
      k_steps
      dsimp only [ForMid]
      have N7 : News gg LL h' ((I, o) :: (DS, listOf ws.toArray 0) :: (lw, listOf (wl.push (.ref T9)) (n + 1)) :: (T9, tupObj (wordP k).1 (wordP k).2 t1 t2) :: tups) := news_sub N' (by
        intro p hp
        simp only [List.mem_cons] at hp ⊢
        rcases hp with h | h | h | h | h <;> simp [h])
      refine ⟨_, (DS, listOf ws.toArray 0) :: (lw, listOf (wl.push (.ref T9)) (n + 1)) :: (T9, tupObj (wordP k).1 (wordP k).2 t1 t2) :: tups, o, h', _, _, rfl, ⟨fun y y1 => ?_, _, _, _, rfl, ?_⟩, F', N7, S, ?_⟩
      · rw [em0]
        simp only [if_neg y1]
      · have e6 : (ns.take 6).take (j + 1) = (ns.take 6).take j ++ [k] := by
          rw [List.take_succ, hkj]; rfl
        show TI ((T9, tupObj (wordP k).1 (wordP k).2 t1 t2) :: tups) (wl.push (.ref T9)) (wordsF ((ns.take 6).take (j + 1)))
        rw [e6, show wordsF ((ns.take 6).take j ++ [k]) = wordsF ((ns.take 6).take j) ++ [((wordP k).1, (wordP k).2)] by unfold wordsF; rw [List.map_append, ← List.append_assoc]; rfl]
        refine TI.of (h := h') (TF.push (hTI.tf fun p hp => (N7 p (by simp [hp])).1) rfl (N7 (T9, tupObj (wordP k).1 (wordP k).2 t1 t2) (by simp)).1) (List.forall_mem_cons.mpr ⟨rfl, hTI.2.1⟩) (fun p hp => (N7 p (by
          rcases List.mem_cons.mp hp with h | h <;> simp [h])).1) fun x hx => ?_
        rw [Array.toList_push] at hx
        rcases List.mem_append.mp hx with hx | hx
        · obtain ⟨jj, hjj, rfl⟩ := Array.mem_iff_getElem.mp (Array.mem_toList_iff.mp hx)
          obtain ⟨tp2, u, u', e1, e2⟩ := hTI.2.2 jj (by rw [← hTI.1]; exact hjj)
          rw [Array.getElem?_eq_getElem hjj] at e1
          exact ⟨_, List.mem_cons_of_mem _ e2, Option.some.inj e1⟩
        · exact ⟨_, .head _, List.mem_singleton.mp hx⟩
      · refine List.forall_mem_cons.mpr ⟨hne _ (.head _), List.forall_mem_cons.mpr ⟨hIne, lst_ne (news := (T9, tupObj (wordP k).1 (wordP k).2 t1 t2) :: tups) (news_sub N7 ?_) S (List.forall_mem_cons.mpr ⟨(show Value.type "tuple" ≠ Value.type "list_iterator" by decide), fun p hp => by rw [hTI.2.1 p hp]; decide⟩)⟩⟩
        intro p hp
        simp only [List.mem_cons] at hp ⊢
        rcases hp with h | h | h <;> simp [h]
  · intro m news h9 gs tk J F N
    obtain ⟨hm, wl, n, tups, rfl, hTI⟩ := J
    have em : m = fun z => if z = Str.ofString "x" then m (Str.ofString "x") else m0 z := by
      funext z
      by_cases h1 : z = Str.ofString "x"
      · rw [h1, if_pos rfl]
      · simp only [if_neg h1]; exact hm z h1
    rw [em, em0] at F
    clear F2 F3 N2 em
    rw [List.size_toArray, hws, List.take_length] at hTI
    k_steps
    exact h lw wl _ _ _ (N.isList (.tail _ (.head _))) (hTI.tf fun p hp => (N p (by simp [hp])).1) ⟨fun b o e => F.keep b o (bg b o e), fun _ q => absurd q List.not_mem_nil⟩ (kept_of hid F)
  · have e0 : wordsF ((ns.take 6).take 0) = [(Str.ofString " ", Str.ofString "the"), (Str.ofString "  ", Str.ofString "page"), (Str.ofString " ", Str.ofString "is"), (Str.ofString " ", Str.ofString "laid")] := rfl
    rw [e0]
    refine ⟨rfl, ?_, ?_⟩
    · intro p hp
      simp only [List.mem_cons, List.not_mem_nil, or_false] at hp
      rcases hp with rfl | rfl | rfl | rfl <;> rfl
    · intro j hj
      match j, hj with
      | 0, _ => exact ⟨_, _, _, rfl, .tail _ (.tail _ (.tail _ (.head _)))⟩
      | 1, _ => exact ⟨_, _, _, rfl, .tail _ (.tail _ (.head _))⟩
      | 2, _ => exact ⟨_, _, _, rfl, .tail _ (.head _)⟩
      | 3, _ => exact ⟨_, _, _, rfl, .head _⟩
end
section
theorem clear_M1 : True := by
  k_with_none
  w_top off
  trivial
noncomputable abbrev Row := List (Str × Str)
noncomputable def rowsF1 (head width : Int) (st : List Row × Row × Int) (p : Str × Str) : List Row × Row × Int :=
  if lenP (st.2.1 ++ [p]) ≤ st.2.2 ∨ (head = 0 ∧ st.2.1 = []) then (st.1, st.2.1 ++ [p], st.2.2) else (st.1 ++ [st.2.1], [p], width)
noncomputable def rowsF (head width : Int) (ps : Row) : List Row × Row × Int := ps.foldl (rowsF1 head width) ([], [], width - head)
noncomputable def rowsOf (st : List Row × Row × Int) : List Row := st.1 ++ [st.2.1]
theorem rowsF_take (head width : Int) (ps : Row) (j : Nat) (hj : j < ps.length) : rowsF head width (ps.take (j + 1)) = rowsF1 head width (rowsF head width (ps.take j)) ps[j] := by
  rw [List.take_add_one, List.getElem?_eq_getElem hj]
  show List.foldl (rowsF1 head width) ([], [], width - head) (List.take j ps ++ [ps[j]]) = _
  rw [List.foldl_append]; rfl
theorem rowsF_inv (head width : Int) (ps : Row) : ∀ j, j ≤ ps.length → (∀ p ∈ (rowsF head width (ps.take j)).2.1, p ∈ ps) ∧ (rowsF head width (ps.take j)).2.1.length ≤ j ∧ (rowsF head width (ps.take j)).1.length ≤ j ∧ ((rowsF head width (ps.take j)).2.2 = width ∨ (rowsF head width (ps.take j)).2.2 = width - head) := by
  intro j
  induction j with
  | zero => exact fun _ => ⟨(fun _ h => nomatch h), Nat.le_refl _, Nat.le_refl _, .inr rfl⟩
  | succ j ih =>
    intro hj
    obtain ⟨a, b, c, d⟩ := ih (by omega)
    rw [rowsF_take head width ps j hj]
    have one : ∀ q ∈ [ps[j]], q ∈ ps := fun q hq => by rw [List.mem_singleton.mp hq]; exact List.getElem_mem hj
    unfold rowsF1
    split
    · refine ⟨fun q hq => ?_, by simp; omega, Nat.le_trans c (Nat.le_succ _), d⟩
      rcases List.mem_append.mp hq with hq | hq
      · exact a q hq
      · exact one q hq
    · exact ⟨one, by simp, by simp; omega, .inl rfl⟩
theorem txt_dot {ps : Row} (hd : ∀ p ∈ ps, ∀ c ∈ p.1.cps.toList ++ p.2.cps.toList, c ≠ 46) : ∀ c ∈ (txt ps).cps.toList, c ≠ 46 := by
  intro c hc
  unfold txt at hc
  simp only [List.mem_flatMap] at hc
  obtain ⟨p, hp, hc⟩ := hc
  exact hd p hp c hc
theorem txt_joinOk {ps : Row} (hg : ∀ p ∈ ps, GoodP p) (hn : ps.length ≤ 90) : JoinOk (Str.ofString "") (ps.map catP) = true := by
  refine joinOk_of _ _ ?_
  have : ((ps.map catP).map fun x => x.length + (Str.ofString "").length).sum ≤ 200 * ps.length := by
    clear hn
    induction ps with
    | nil => simp
    | cons p r ih =>
      have h1 := (hg p (.head _)).f2
      have h2 := (hg p (.head _)).r2
      have h3 := ih fun q hq => hg q (.tail _ hq)
      simp only [List.map_cons, List.sum_cons, List.length_cons]
      have e : (catP p).length = p.1.length + p.2.length := Str.length_append ..
      have e0 : (Str.ofString "").length = 0 := by decide
      rw [e, e0]
      rw [e0] at h3
      omega
  rw [sizeLine_eq]; omega
theorem own_nil {g h : Heap} {L : Addr} {m : Str → Option Value} (bg : ∀ b o, b₀.get? b = some o → g.get? b = some o) (F : Fr g L h m) : Own b₀ h [] := ⟨fun b o e => F.keep _ _ (bg _ _ e), fun _ q => absurd q List.not_mem_nil⟩
theorem use_text {E : Value → Shared → Prop} {Q : Value → Shared → Prop} {l : Nat} {wl : Array Value} {ps : List (Str × Str)} (G : GW w mean mg mb b₀) (gb : AllBare s.gens) (O : Own b₀ s.heap []) (hl : s.heap.IsList l wl) (hT : TF s.heap wl ps) (hdp : dp < 750) (hun : un < 1500) (hn : ps.length ≤ 80) (hg : ∀ p ∈ ps, GoodP p)
    (h : ∀ t' h' (gs : BG) tk', Kept s.heap h' → Q (.str (txt ps) t') ⟨h', gs.1, s.drawn, tk', s.os⟩) :
    wpAny (model Challenge.rw_ph0143_01.row.prog w) (mkA dp un gd fs) (call (.ref 215) [.ref l]) Q E s := by
  refine wpAny_call (text_spec l wl ps G gb O hl hT hdp hun hn (fun p hp => ⟨Nat.le_trans (hg p hp).f2 (by decide), Nat.le_trans (hg p hp).r2 (by decide)⟩) (txt_joinOk hg (by omega)) fun t' h' gs tk' _ k => ?_)
  show Q _ _
  rw [show ps.map catP = ps.map fun p => p.1 ++ p.2 from rfl, catP_cat]
  exact h _ _ _ _ k
theorem use_cram {E : Value → Shared → Prop} {Q : Value → Shared → Prop} {x : Str} {tx tm : Tok} {ml : Int} (G : GW w mean mg mb b₀) (O : Own b₀ s.heap []) (hdp : dp < 750) (hun : un < 1500) (hx : x.length ≤ 10000) (hm : -100 ≤ ml) (hm2 : ml ≤ 100) (hdot : ∀ c ∈ x.cps.toList, c ≠ 46)
    (h : ∀ y t' h' tk', Kept s.heap h' → (y.cps.toList == x.cps.toList) = decide ((x.length : Int) ≤ ml) → Q (.str y t') ⟨h', s.gens, s.drawn, tk', s.os⟩) :
    wpAny (model Challenge.rw_ph0143_01.row.prog w) (mkA dp un gd fs) (call (.ref 42) [.str x tx, .int ml tm]) Q E s := by
  by_cases hf : (x.length : Int) ≤ ml
  · refine wpAny_call (cram_fit x tx tm ml G O hdp hun hx hf fun h' tk' _ k => h x tx h' tk' (kept_kp k) ?_)
    simp [hf]
  · refine wpAny_call (cram_cut x tx tm ml G O hdp hun hx hf hm hm2 fun a b t' h' tk' _ k => h _ t' h' tk' (kept_kp k) ?_)
    rw [decide_eq_false hf]
    refine beq_eq_false_iff_ne.mpr fun e => hdot 46 ?_ rfl
    rw [← e]
    simp [Str.cps_append]
    exact .inr (.inl (Array.mem_toList_iff.mp (by decide)))
theorem ns_at {h h' : Heap} {L : Addr} {m : Str → Option Value} (n : h.Ns L m) (k : Kept h h') : h'.Ns L m := n.at' fun o e => k _ o e
noncomputable def RowsInv (l : Nat) (head width : Int) (th tw : Tok) (ps : Row) (j : Nat) (m : Str → Option Value) (news : List (Addr × Obj)) (h : Heap) : Prop :=
  news = [] ∧ m (Str.ofString "words") = some (.ref l) ∧ m (Str.ofString "head") = some (.int head th) ∧ m (Str.ofString "width") = some (.int width tw) ∧
  ∃ (r : Addr) (rits : Array Value) (tr : Tok), m (Str.ofString "rows") = some (.ref r) ∧ m (Str.ofString "room") = some (.int (rowsF head width (ps.take j)).2.2 tr) ∧ h.IsList r rits ∧ RF h rits (rowsOf (rowsF head width (ps.take j)))
theorem rows_spec (l : Nat) (wl : Array Value) (ps : Row) (head width : Int) (th tw : Tok) (G : GW w mean mg mb b₀) (gb : AllBare s.gens) (O : Own b₀ s.heap []) (hl : s.heap.IsList l wl) (hT : TF s.heap wl ps) (hdp : dp < 740) (hun : un < 1400) (hg : ∀ p ∈ ps, GoodP p) (hdot : ∀ p ∈ ps, ∀ c ∈ p.1.cps.toList ++ p.2.cps.toList, c ≠ 46) (hn : ps.length ≤ 30) (h1 : 0 ≤ head) (h2 : head ≤ 40) (h3 : 0 ≤ width) (h4 : width ≤ 40)
    (h : ∀ (r : Addr) rits h' (gs : BG) tk', h'.IsList r rits → RF h' rits (rowsOf (rowsF head width ps)) → Own b₀ h' [] → Kept s.heap h' → R (.ok (.ret (.ref r))) ⟨h', gs.1, s.drawn, tk', s.os⟩) :
    codeAny (model Challenge.rw_ph0143_01.row.prog w) (mkA dp un gd fs) (.call (.ref 229) ⟨[.ref l, .int head th, .int width tw], []⟩) R s := by
  have GG := GL.of G
  have X := G.X
  have T := G.T
  revert X; k_fill; intro X
  k_dflt ktr_enter
  rename Fr _ _ _ _ => F0
  rename News _ _ _ _ => N0
  rename (∀ b o, Heap.get? s.heap b = some o → _ → _) => hid
  rename (∀ b o, Heap.get? b₀ b = some o → Heap.get? _ b = some o) => bg
  rename_i gg LL h0 XX TT lts
  have hlg : Heap.IsList gg l wl := list_kp hl O (by simp) hid
  have hTg : TF gg wl ps := hT.kp O (by simp) hid
  have sz : ∀ n : Nat, n ≤ 1000 → n ≤ sizeLine := fun n hn => by rw [sizeLine_eq]; omega
  have one1 : ∀ {D : Addr} {h' : Heap}, h'.IsList D #[] → TF h' #[] [] := fun _ => TF.nil
  refine wpAny_execs_cons (x_pair rfl ?_)
  refine List_ (args_cons (List_ (args_nil (x_newlist (by decide) fun D1 g1 k1 l1 => args_nil (x_newlist (sz _ (show 1 ≤ 1000 by decide)) fun D2 g2 k2 l2 => ?_)))))
  have F1 := fr_kept (fr_kept F0 k1) k2
  refine wpAny_BinOp (wpAny_Name (wpAny_loadName_local rfl rfl F1.ns rfl (wpAny_Name (wpAny_loadName_local rfl rfl F1.ns rfl (P.sub_int ⟨_, F1.ns, fun g3 tk3 n3 k3 => ?_⟩)))))
  obtain ⟨F3, _⟩ := fr_assign F1 (news_nil F1) n3 k3
  have ks3 : KS g2 g3 := ks_store F1.ns (fun b o hb e => k3 b o hb e)
  have L2 := ks_list l2 ks3
  have R2 := ks_rf (RF.one (ks_list l1 k2.ks) TF.nil) ks3
  refine wpAny_execs_cons (for_open ?_ (fun _ => rfl))
  refine wpAny_Name (wpAny_loadName_local rfl rfl F3.ns rfl ?_)
  refine iter_list F3 (news_nil F3) (hlg.at fun o e => F3.keep _ _ e) fun I o g4 S4 F4 N4 lt4 k4 => ?_
  have k4 : Kept g3 g4 := k4
  have hws := hTg.1
  refine for_sem (g := gg) (its := wl) (RowsInv l head width th tw ps) (fun j m news h h' k J => ?_) rfl (fun j m news h J F N => hlg.at fun o e => F.keep _ _ e) ?_ s ?_ wl.size 0 _ [] o g4 ⟨_, gb⟩ _ rfl (Nat.zero_le _) ⟨rfl, rfl, rfl, rfl, D2, _, _, rfl, rfl, ks_list L2 k4.ks, ks_rf R2 k4.ks⟩ F4 N4 S4 (fun _ q => absurd q List.not_mem_nil)
  · obtain ⟨a, b, c, d, r, rits, tr, e1, e2, e3, e4⟩ := J
    exact ⟨a, b, c, d, r, rits, tr, e1, e2, ks_list e3 k, ks_rf e4 k⟩
  · intro j m news o h5 gs tk v s₀ hv J F N S hne
    obtain ⟨rfl, b, c, d, r, rits, tr, e1, e2, e3, e4⟩ := J
    have hj : j < ps.length := by have := (Array.getElem?_eq_some_iff.mp hv).1; omega
    obtain ⟨tp, t, t', hwj, hget⟩ := hTg.2 j hj
    rw [hwj] at hv
    cases hv
    obtain ⟨q1, q2, q3, q4⟩ := rowsF_inv head width ps j (by omega)
    have hnext := rowsF_take head width ps j hj
    generalize rowsF head width (ps.take j) = st at *
    obtain ⟨front, last, room⟩ := st
    dsimp only [rowsOf] at *
    refine wpAny_pure ?_
    refine wpAny_assign_Name (wpAny_storeName_local rfl F.ns (fun g6 n6 k6 => ?_) rfl)
    obtain ⟨F6, N6⟩ := fr_assign F N n6 k6.extBut
    have ks6 := ks_store F.ns k6.extBut
    have L6 := ks_list e3 ks6
    have R6 := ks_rf e4 ks6
    obtain ⟨hsz, rl, rlits, hx, hll, hTl⟩ := R6.last
    have hx' : rits[rits.size - 1]? = some (.ref rl) := by rw [hsz]; exact hx
    have hlz : rlits.size = last.length := hTl.1
    obtain ⟨oT, fT, hoT, hdT⟩ := GG.dtext
    obtain ⟨oC, fC, hoC, hdC⟩ := GG.dcram
    have gnew : ∀ p ∈ last ++ [ps[j]], p ∈ ps := fun p hp => by
      rcases List.mem_append.mp hp with hp | hp
      · exact q1 p hp
      · rw [List.mem_singleton.mp hp]; exact List.getElem_mem hj
    have hp6 : g6.get? tp = some (tupObj ps[j].1 ps[j].2 t t') := F6.keep _ _ hget
    refine wpAny_execs_cons (wpAny_Assign_Name (x_call (GG.ns.at' fun o e => F6.keep _ _ (bg _ _ e)) GG.text hdT ?_))
    refine args_cons (wpAny_BinOp (x_last (wpAny_Name (wpAny_loadName_local rfl rfl F6.ns e1 ⟨r, rits, .ref rl, rfl, L6, by omega, hx', fun tk9 => ?_⟩))))
    refine List_ (args_cons (wpAny_Name (wpAny_loadName_local rfl rfl F6.ns rfl (args_nil (x_newlist (sz _ (show 1 ≤ 1000 by decide)) fun D7 g7 k7 l7 => ?_)))))
    refine x_add (ks_list hll k7.ks) l7 (sz _ (by simp; omega)) fun D8 g8 k8 l8 => args_nil ?_
    have F8 := fr_kept (fr_kept F6 k7) k8
    have hl8 : g8.IsList D8 (rlits ++ #[.ref tp]) := l8
    have hT8 : TF g8 (rlits ++ #[.ref tp]) (last ++ [ps[j]]) := (ks_tf hTl (k7.trans k8).ks).append (TF.one (k8 _ _ (k7 _ _ hp6)))
    refine ⟨F8.keep _ _ (bg _ _ hoT), use_text G gs.2 (own_nil bg F8) hl8 hT8 (by ktr_units) (by ktr_units) (by simp; omega) (fun p hp => hg p (gnew p hp)) fun t9 g9 gs9 tk9 k9 => ?_⟩
    have F9 := fr_kept F8 k9
    have k69 : Kept g6 g9 := (k7.trans k8).trans k9
    have N9 : News gg LL g9 [(I, o)] := news_kept N6 k69
    refine wpAny_storeName_local rfl F9.ns (fun g10 n10 k10 => ?_) rfl
    obtain ⟨F10, N10⟩ := fr_assign F9 N9 n10 k10.extBut
    have ks10 : KS g6 g10 := k69.ks.trans (ks_store F9.ns k10.extBut)
    dsimp only
    have hlen : ((txt (last ++ [ps[j]])).length : Int) = lenP (last ++ [ps[j]]) := txt_length _
    have hlen2 : lenP (last ++ [ps[j]]) ≤ 200 * (last ++ [ps[j]]).length := lenP_le fun p hp => ⟨(hg p (gnew p hp)).f2, (hg p (gnew p hp)).r2⟩
    have hlen3 : (last ++ [ps[j]]).length ≤ 40 := by simp; omega
    have hroom : -100 ≤ room ∧ room ≤ 100 := by rcases q4 with q4 | q4 <;> (constructor <;> omega)
    refine wpAny_execs_cons (wpAny_If (wpAny_mono (Q := fun c s' => ∃ gx, ∃ (gsx : BG), ∃ tkx, s' = ⟨gx, gsx.1, s₀.drawn, tkx, s₀.os⟩ ∧ Kept g10 gx ∧ c = decide (lenP (last ++ [ps[j]]) ≤ room ∨ (head = 0 ∧ last = []))) ?_ (fun c s' hc => ?_) fun _ _ z => z))
    · refine isTrue_or (wpAny_isTrue_Compare1 (x_call (GG.ns.at' fun o e => F10.keep _ _ (bg _ _ e)) GG.cram hdC ?_))
      refine args_cons (wpAny_Name (wpAny_loadName_local rfl rfl F10.ns rfl (args_cons (wpAny_Name (wpAny_loadName_local rfl rfl F10.ns e2 (args_nil ?_))))))
      refine ⟨F10.keep _ _ (bg _ _ hoC), use_cram G (own_nil bg F10) (by ktr_units) (by ktr_units) (by omega) hroom.1 hroom.2 (txt_dot fun p hp => hdot p (gnew p hp)) fun y t11 g11 tk11 k11 hy => ?_⟩
      have F11 := fr_kept F10 k11
      refine wpAny_Name (wpAny_loadName_local rfl rfl F11.ns rfl (P.eq_str ?_))
      rw [hy, hlen]
      refine wpAny_truthy_bool ?_
      by_cases hf : lenP (last ++ [ps[j]]) ≤ room
      · rw [decide_eq_true hf, if_pos rfl]
        exact ⟨_, _, _, rfl, k11, (decide_eq_true (.inl hf)).symm⟩
      · rw [decide_eq_false hf, if_neg (by decide)]
        refine isTrue_or (isTrue_and (wpAny_isTrue_Compare1 (wpAny_Name (wpAny_loadName_local rfl rfl F11.ns c (wpAny_Constant_int (P.eq_int (wpAny_truthy_bool ?_)))))))
        by_cases hz : head = 0
        · rw [show (head == 0) = true from by simp [hz], if_pos rfl]
          refine isTrue_and (isTrue_not (isTrue_plain (x_last (wpAny_Name (wpAny_loadName_local rfl rfl F11.ns e1 ⟨r, rits, .ref rl, rfl, ks_list L6 (ks10.trans k11.ks), by omega, hx', fun tk12 => ?_⟩)))))
          refine wpAny_truthy_list (ks_list hll (ks10.trans k11.ks)) (by omega) ?_
          by_cases hlast : last = []
          · have hem : rlits = #[] := Array.eq_empty_of_size_eq_zero (by rw [hlz, hlast]; rfl)
            rw [hem]
            refine isTrue_and_nil ⟨_, _, _, rfl, k11, (decide_eq_true (.inr ⟨hz, hlast⟩)).symm⟩
          · have hem : rlits.isEmpty = false := by
              rw [Array.isEmpty_eq_false_iff]
              intro e
              rw [e] at hlz
              exact hlast (List.eq_nil_of_length_eq_zero hlz.symm)
            rw [hem]
            refine isTrue_or_nil ⟨_, _, _, rfl, k11, (decide_eq_false ?_).symm⟩
            rintro (h | h)
            · exact hf h
            · exact hlast h.2
        · rw [show (head == 0) = false from by simp [hz], if_neg (by decide)]
          rw [if_neg (by decide)]
          refine isTrue_or_nil ⟨_, _, _, rfl, k11, (decide_eq_false ?_).symm⟩
          rintro (h | h)
          · exact hf h
          · exact hz h.1
    · obtain ⟨gx, gsx, tkx, rfl, kx, rfl⟩ := hc
      have Fx := fr_kept F10 kx
      have Nx := news_kept N10 kx
      have ksx : KS g6 gx := ks10.trans kx.ks
      have Lx := ks_list L6 ksx
      have Rx := ks_rf R6 ksx
      have hllx := ks_list hll ksx
      have hTlx := ks_tf hTl ksx
      have hpx : gx.get? tp = some (tupObj ps[j].1 ps[j].2 t t') := Fx.keep _ _ hget
      have szr : rits.size ≤ 100 := by rw [hsz]; omega
      have hps := slicePick_size_le rits none (some (-1)) none
      have hpick : slicePick rits none (some (-1)) none = (rits.toList.take front.length).toArray := by
        have e := slicePick_butLast rits 1 (Nat.le_refl _)
        rw [hsz] at e
        exact e
      by_cases hcond : lenP (last ++ [ps[j]]) ≤ room ∨ (head = 0 ∧ last = [])
      · rw [decide_eq_true hcond, if_pos rfl]
        refine wpAny_execs_cons (wpAny_Assign_Name (wpAny_BinOp (x_slice (wpAny_Name (wpAny_loadName_local rfl rfl Fx.ns e1 (wpAny_evalPart_none (wpAny_evalPart_some (wpAny_UnaryOp (wpAny_Constant_int (P.neg_int ⟨r, rits, none, some (-1), rfl, Lx, sz _ (by omega), .none, .int _ _, fun D1 a1 c1 d1 => ?_⟩))))))))))
        have Fa := fr_kept Fx c1
        refine List_ (args_cons (wpAny_BinOp (x_last (wpAny_Name (wpAny_loadName_local rfl rfl Fa.ns e1 ⟨r, rits, .ref rl, rfl, ks_list Lx c1.ks, by omega, hx', fun tk9 => ?_⟩)))))
        refine List_ (args_cons (wpAny_Name (wpAny_loadName_local rfl rfl Fa.ns rfl (args_nil (x_newlist (sz _ (show 1 ≤ 1000 by decide)) fun D2 a2 c2 d2 => ?_)))))
        refine x_add (ks_list hllx (c1.trans c2).ks) d2 (sz _ (by simp; omega)) fun D3 a3 c3 d3 => args_nil ?_
        refine x_newlist (sz _ (show 1 ≤ 1000 by decide)) fun D4 a4 c4 d4 => ?_
        refine x_add (ks_list d1 ((c2.trans c3).trans c4).ks) d4 (sz _ (by simp; omega)) fun D5 a5 c5 d5 => ?_
        have k15 : Kept gx a5 := (((c1.trans c2).trans c3).trans c4).trans c5
        have F5 := fr_kept Fx k15
        have N5 := news_kept Nx k15
        refine wpAny_storeName_local rfl F5.ns (fun b6 n6 k6' => ?_) rfl
        obtain ⟨Fz, Nz⟩ := fr_assign F5 N5 n6 k6'.extBut
        have ksz : KS a5 b6 := ks_store F5.ns k6'.extBut
        refine wpAny_execs_nil (wpAny_execs_nil ?_)
        have Rt : RF gx (rits.toList.take front.length).toArray front := by
          have := Rx.take front.length
          rwa [List.take_left] at this
        rw [hpick] at d5
        refine ⟨_, [], o, b6, _, _, rfl, ?_, Fz, Nz, S, hne⟩
        refine ⟨rfl, b, c, d, D5, _, tr, rfl, ?_, ks_list d5 ksz, ?_⟩
        · rw [hnext]
          unfold rowsF1
          rw [if_pos hcond]
          exact e2
        · rw [hnext]
          unfold rowsF1
          rw [if_pos hcond]
          refine ks_rf ((ks_rf Rt k15.ks).append (RF.one (ks_list d3 (c4.trans c5).ks) ?_)) ksz
          exact (ks_tf hTlx k15.ks).append (TF.one (k15 _ _ hpx))
      · rw [decide_eq_false hcond, if_neg (by decide)]
        refine wpAny_execs_cons (x_pair rfl (wpAny_BinOp (wpAny_Name (wpAny_loadName_local rfl rfl Fx.ns e1 ?_))))
        refine List_ (args_cons (List_ (args_cons (wpAny_Name (wpAny_loadName_local rfl rfl Fx.ns rfl (args_nil (x_newlist (sz _ (show 1 ≤ 1000 by decide)) fun D1 a1 c1 d1 => args_nil ?_)))))))
        refine x_newlist (sz _ (show 1 ≤ 1000 by decide)) fun D2 a2 c2 d2 => ?_
        refine x_add (ks_list Lx (c1.trans c2).ks) d2 (sz _ (by simp; omega)) fun D3 a3 c3 d3 => ?_
        have k13 : Kept gx a3 := (c1.trans c2).trans c3
        have F3 := fr_kept Fx k13
        have N3 := news_kept Nx k13
        refine wpAny_Name (wpAny_loadName_local rfl rfl F3.ns d ⟨_, F3.ns, fun b6 tk6 n6 k6' => ?_⟩)
        obtain ⟨Fz, Nz⟩ := fr_assign F3 N3 n6 k6'
        have ksz : KS a3 b6 := ks_store F3.ns fun b o hb e => k6' b o hb e
        refine wpAny_execs_nil (wpAny_execs_nil ?_)
        refine ⟨_, [], o, b6, _, _, rfl, ?_, Fz, Nz, S, hne⟩
        refine ⟨rfl, b, c, d, D3, _, tw, rfl, ?_, ks_list d3 ksz, ?_⟩
        · rw [hnext]
          unfold rowsF1
          rw [if_neg hcond]
          rfl
        · rw [hnext]
          unfold rowsF1
          rw [if_neg hcond]
          exact ks_rf ((ks_rf Rx k13.ks).append (RF.one (ks_list d1 (c2.trans c3).ks) (TF.one (k13 _ _ hpx)))) ksz
  · intro m news h9 gs tk J F N
    obtain ⟨rfl, b, c, d, r, rits, tr, e1, e2, e3, e4⟩ := J
    rw [hws, List.take_length] at e4
    refine wpAny_execs_nil ?_
    dsimp only
    refine wpAny_execs_cons (wpAny_Return_some (wpAny_Name (wpAny_loadName_local rfl rfl F.ns e1 ?_)))
    exact h r rits _ _ _ e3 e4 (own_nil bg F) (kept_of hid F)
end
section
theorem clear_M2 : True := by
  k_with_none
  w_top off
  trivial
noncomputable def pageF (ml head : Int) (e : Str) (ps : Row) : Str := Txt.join e (linesF (foldF ml head ps).1 (foldF ml head ps).2.1)
noncomputable abbrev tabS (tb tr : Array Value) : List (Addr × Obj) := [(161, tabObj tb), (168, tabObj tr)]
theorem lenP_app (a b : Row) : lenP (a ++ b) = lenP a + lenP b := by
  induction a with
  | nil => simp [lenP]
  | cons p r ih =>
    simp only [lenP, List.cons_append, List.map_cons, List.sum_cons] at *
    omega
theorem foldF_len (ml head : Int) (ps : Row) : ∀ j, j ≤ ps.length → ((((foldF ml head (ps.take j)).1.map (·.length)).sum : Nat) : Int) + lenP (foldF ml head (ps.take j)).2.1 = lenP (ps.take j) := by
  intro j
  induction j with
  | zero => intro _; simp [foldF, lenP]
  | succ j ih =>
    intro hj
    have ih := ih (by omega)
    have e : ps.take (j + 1) = ps.take j ++ [ps[j]] := List.take_succ_eq_append_getElem hj
    rw [foldF_take ml head ps j hj]
    generalize foldF ml head (ps.take j) = st at *
    rw [e, lenP_app]
    unfold chunkF
    split
    · dsimp only; rw [lenP_app]; omega
    · split
      · rename_i _ h0
        rw [h0] at ih
        have e0 : lenP ([] : Row) = 0 := rfl
        split
        · simp only [List.map_append, List.sum_append, List.map_cons, List.map_nil, List.sum_cons, List.sum_nil]
          have : (Str.ofString "").length = 0 := by decide
          omega
        · simp only
          omega
      · have := txt_length st.2.1
        simp only [List.map_append, List.sum_append, List.map_cons, List.map_nil, List.sum_cons, List.sum_nil]
        omega
theorem linesF_len (ml head : Int) (ps : Row) : ((((linesF (foldF ml head ps).1 (foldF ml head ps).2.1).map (·.length)).sum : Nat) : Int) = lenP ps := by
  have h := foldF_len ml head ps ps.length (Nat.le_refl _)
  rw [List.take_length] at h
  unfold linesF
  split
  · rename_i h0
    rw [h0] at h
    have e0 : lenP ([] : Row) = 0 := rfl
    omega
  · have := txt_length (foldF ml head ps).2.1
    simp only [List.map_append, List.sum_append, List.map_cons, List.map_nil, List.sum_cons, List.sum_nil]
    omega
theorem sum_add (l : List Str) (n : Nat) : (l.map fun x => x.length + n).sum = (l.map (·.length)).sum + l.length * n := by
  induction l with
  | nil => simp
  | cons a r ih => simp only [List.map_cons, List.sum_cons, List.length_cons, ih, Nat.add_mul]; omega
theorem page_ok {ml head : Int} {ps : Row} {e : Str} (hh : 0 ≤ head) (hg : ∀ p ∈ ps, GoodP p) (hn : ps.length ≤ 80) (he : e.length ≤ 10) : JoinOk e (linesF (foldF ml head ps).1 (foldF ml head ps).2.1) = true := by
  refine joinOk_of _ _ ?_
  rw [sum_add]
  have h1 := linesF_len ml head ps
  have h2 := lenP_le fun p hp => ⟨(hg p hp).f2, (hg p hp).r2⟩
  obtain ⟨_, _, h3, _⟩ := foldF_inv ml head hh ps hg ps.length (Nat.le_refl _)
  rw [List.take_length] at h3
  have h4 : (linesF (foldF ml head ps).1 (foldF ml head ps).2.1).length ≤ 81 := by
    unfold linesF
    split
    · omega
    · rw [List.length_append]; simp; omega
  have h5 : (linesF (foldF ml head ps).1 (foldF ml head ps).2.1).length * e.length ≤ 81 * 10 := Nat.mul_le_mul h4 he
  rw [sizeLine_eq]
  omega
section
variable {g : Heap} {L : Addr} {m : Str → Option Value} {rest : List (Addr × Obj)} {E : Value → Shared → Prop} {Q : Value → Shared → Prop}
theorem use_page {l : Nat} {wl : Array Value} {ps : Row} {tb tr : Array Value} {head width : Int} {th tw te : Tok} {e : Str} (G : GW w mean mg mb b₀) (gb : AllBare s.gens) (bg : ∀ b o, b₀.get? b = some o → g.get? b = some o) (F : Fr g L s.heap m) (N : News g L s.heap (tabS tb tr ++ rest)) (hrest : ∀ q ∈ rest, q.2.cls ≠ .none)
    (hl : s.heap.IsList l wl) (hT : TF s.heap wl ps) (htb : TabOk posLen tb) (htr : TabOk posStr tr) (hdp : dp < 750) (hun : un < 1500) (hh : 0 ≤ head) (hh2 : head < 100) (hg : ∀ p ∈ ps, GoodP p) (hn : ps.length ≤ 80) (hps : ps ≠ [] ∨ head = 0) (he : e.length ≤ 10)
    (h : ∀ tb' tr' t0 h' (gs : BG) tk', TabOk posLen tb' → TabOk posStr tr' → Fr g L h' m → News g L h' (tabS tb' tr' ++ rest) → KS s.heap h' → Q (.str (pageF width head e ps) t0) ⟨h', gs.1, s.drawn, tk', s.os⟩) :
    wpAny (model Challenge.rw_ph0143_01.row.prog w) (mkA dp un gd fs) (call (.ref 222) [.ref l, .int head th, .int width tw, .str e te]) Q E s := by
  have O : Own b₀ s.heap (tabS tb tr) := (own_of bg F N).sub fun p hp => List.mem_append.mpr (.inl hp)
  refine wpAny_call (page_walk l wl ps tb tr head width th tw te e G gb O hl hT htb htr hdp hun hh hh2 hg hn (fun h1 h2 => ?_) (page_ok hh hg hn he) fun tb' tr' t0 h' gs tk' b1 b2 O' K' => ?_)
  · rcases hps with hps | hps
    · exact absurd h2 (h1 (by rw [ne_eq, List.length_eq_zero_iff]; exact hps))
    · obtain ⟨_, _, _, q1, q2, _⟩ := foldF_inv width head hh ps hg ps.length (Nat.le_refl _)
      rw [List.take_length] at q1 q2
      omega
  · obtain ⟨F', N'⟩ := after_sem (rest := rest) F N (fun p hp => List.mem_append.mpr (.inl hp)) (fun p hp => List.mem_append.mpr (.inr hp)) (fun p hp q hq e => hrest q hq (by
      rw [← e]
      simp only [tabS, List.mem_cons, List.not_mem_nil, or_false] at hp
      rcases hp with rfl | rfl <;> rfl)) K' O' (List.forall_mem_cons.mpr ⟨.inl ⟨_, .head _⟩, List.forall_mem_cons.mpr ⟨.inl ⟨_, .tail _ (.head _)⟩, List.forall_mem_nil _⟩⟩)
    refine h tb' tr' t0 h' gs tk' b1 b2 F' N' (ks_kp O (fun p hp => ?_) K')
    simp only [tabS, List.mem_cons, List.not_mem_nil, or_false] at hp
    rcases hp with rfl | rfl <;> exact ⟨_, rfl⟩
theorem use_doc {x : Str} {tx : Tok} (G : GW w mean mg mb b₀) (O : Own b₀ s.heap []) (hdp : dp < 750) (hun : un < 1500) (hx : x.length ≤ 10000)
    (h : ∀ a b tp t t' h' tk', docR x a b → h'.get? tp = some (tupObj a b t t') → Kept s.heap h' → Q (.ref tp) ⟨h', s.gens, s.drawn, tk', s.os⟩) :
    wpAny (model Challenge.rw_ph0143_01.row.prog w) (mkA dp un gd fs) (call (.ref 28) [.str x tx]) Q E s :=
  wpAny_call (splitdoc_spec x tx G O hdp hun hx fun a b tp t t' h' tk' d O' K' _ => h a b tp t t' h' tk' d (O'.mem _ (.head _)).1 (kept_kp K'))
theorem use_replace {x y z : Str} {tx ty tz : Tok} (G : GW w mean mg mb b₀) (O : Own b₀ s.heap []) (hdp : dp < 750) (hun : un < 1500) (hx : x.length ≤ 10000) (hy : 1 ≤ y.length) (hy2 : y.length ≤ 10) (hzy : z.length ≤ y.length)
    (h : ∀ t' h' tk', Kept s.heap h' → Q (.str (Txt.join z (Txt.split x y)) t') ⟨h', s.gens, s.drawn, tk', s.os⟩) :
    wpAny (model Challenge.rw_ph0143_01.row.prog w) (mkA dp un gd fs) (call (.ref 35) [.str x tx, .str y ty, .str z tz]) Q E s :=
  wpAny_call (replace_spec x y z tx ty tz G O hdp hun hx (beq_eq_false_iff_ne.mpr (by omega)) (joinOk_le hzy hy2 (by omega)) fun t' h' tk' _ K' => h t' h' tk' K')
end
theorem RF.inner {h : Heap} {its : Array Value} {rows : List Row} (hT : RF h its rows) : ∃ inner : List (Array Value), inner.length = rows.length ∧ (∀ j (hj : j < inner.length), ∃ r, its[j]? = some (.ref r) ∧ h.IsList r inner[j]) ∧ TF h (flatL inner).toArray rows.flatten := by
  obtain ⟨hs, hT⟩ := hT
  generalize hl : its.toList = l at *
  have hi : its = l.toArray := by rw [← hl]
  subst hi
  clear hl
  induction rows generalizing l with
  | nil => exact ⟨[], rfl, fun j hj => absurd hj (Nat.not_lt_zero _), TF.nil⟩
  | cons row rows ih =>
    cases l with
    | nil => simp at hs
    | cons v l =>
      obtain ⟨inner, a, b, c⟩ := ih l (by simpa using hs) (fun j hj => by
        obtain ⟨r, ris, a, b, c⟩ := hT (j + 1) (by simpa using hj)
        exact ⟨r, ris, by simpa using a, b, by simpa using c⟩)
      obtain ⟨r, ris, a1, b1, c1⟩ := hT 0 (by simp)
      refine ⟨ris :: inner, by simp [a], fun j hj => ?_, ?_⟩
      · cases j with
        | zero => exact ⟨r, by simpa using a1, b1⟩
        | succ j =>
          obtain ⟨r', a2, b2⟩ := b j (by simpa using hj)
          exact ⟨r', by simpa using a2, b2⟩
      · have e : (flatL (ris :: inner)).toArray = ris ++ (flatL inner).toArray := by
          apply Array.ext'
          simp [flatL]
        rw [e, List.flatten_cons]
        exact TF.append (by simpa using c1) c
end
section
theorem clear_M3 : True := by
  k_with_none
  w_top off
  trivial
noncomputable def restF (page0 : Str) (width : Int) (e : Str) (rows : List Row) : Nat → Str
  | 0 => page0
  | k + 1 => pageF width 0 e (rows.drop (k + 1)).flatten
noncomputable def PeelInv (rl : Nat) (rits : Array Value) (rows : List Row) (page0 : Str) (width : Int) (e : Str) (tw te : Tok) (j : Nat) (m : Str → Option Value) (news : List (Addr × Obj)) (h : Heap) : Prop :=
  (∃ tb tr, news = tabS tb tr ∧ TabOk posLen tb ∧ TabOk posStr tr) ∧ m (Str.ofString "rows") = some (.ref rl) ∧ m (Str.ofString "width") = some (.int width tw) ∧ m (Str.ofString "end") = some (.str e te) ∧
  (∃ tk, m (Str.ofString "rest") = some (.str (restF page0 width e rows j) tk)) ∧ h.IsList rl rits ∧ RF h rits rows
theorem flat_sub {rows : List Row} {n : Nat} {p : Str × Str} (h : p ∈ (rows.drop n).flatten) : p ∈ rows.flatten := by
  rw [List.mem_flatten] at *
  obtain ⟨l, a, b⟩ := h
  exact ⟨l, List.mem_of_mem_drop a, b⟩
theorem flat_len (rows : List Row) (n : Nat) : (rows.drop n).flatten.length ≤ rows.flatten.length := by
  conv => rhs; rw [← List.take_append_drop n rows]
  rw [List.flatten_append, List.length_append]
  omega
theorem peeled_spec (rl : Nat) (rits : Array Value) (rows : List Row) (page0 : Str) (width : Int) (e : Str) (tp tw te : Tok) (tb tr : Array Value) (G : GW w mean mg mb b₀) (gb : AllBare s.gens) (O : Own b₀ s.heap (tabS tb tr)) (htb : TabOk posLen tb) (htr : TabOk posStr tr) (hl : s.heap.IsList rl rits) (hR : RF s.heap rits rows)
    (hdp : dp < 720) (hun : un < 1200) (hg : ∀ p ∈ rows.flatten, GoodP p) (hn : rows.flatten.length ≤ 30) (hrn : rows.length ≤ 30) (he1 : 1 ≤ e.length) (he2 : e.length ≤ 10)
    (hlen : ∀ k, k ≤ rows.length → (restF page0 width e rows k).length ≤ 9000)
    (hA : ∀ k, k < rows.length → Txt.join (Str.ofString "") (Txt.split (restF page0 width e rows k) e) = txt (rows.drop k).flatten)
    (hB : ∀ k (hk : k < rows.length), ∀ a b, docR (restF page0 width e rows k ++ e) a b → a = Txt.stripChars (txt rows[k]) (Str.ofString " ") ∧ b = restF page0 width e rows (k + 1))
    (h : ∀ tb' tr' h' (gs : BG) tk', TabOk posLen tb' → TabOk posStr tr' → Own b₀ h' (tabS tb' tr') → Kp (tabS tb tr) s.heap h' → R (.ok (.ret (.bool true))) ⟨h', gs.1, s.drawn, tk', s.os⟩) :
    codeAny (model Challenge.rw_ph0143_01.row.prog w) (mkA dp un gd fs) (.call (.ref 234) ⟨[.str page0 tp, .ref rl, .int width tw, .str e te], []⟩) R s := by
  have GG := GL.of G
  have X := G.X
  have T := G.T
  revert X; k_fill; intro X
  k_dflt ktr_enter
  rename Fr _ _ _ _ => F0
  rename News _ _ _ _ => N0
  rename (∀ b o, Heap.get? s.heap b = some o → _ → _) => hid
  rename (∀ b o, Heap.get? b₀ b = some o → Heap.get? _ b = some o) => bg
  rename_i gg LL h0 XX TT lts
  have hnS : ∀ p ∈ tabS tb tr, p.2.cls ≠ .type "list" ∧ p.2.cls ≠ .type "tuple" := by simp [tabS, tabObj]
  have hlg : Heap.IsList gg rl rits := list_kp hl O (fun p hp => (hnS p hp).1) hid
  have hRg : RF gg rits rows := ⟨hR.1, fun j hj => let ⟨r, ris, a, b, c⟩ := hR.2 j hj; ⟨r, ris, a, list_kp b O (fun p hp => (hnS p hp).1) hid, c.kp O (fun p hp => (hnS p hp).2) hid⟩⟩
  have sz : ∀ n : Nat, n ≤ 1000 → n ≤ sizeLine := fun n hn => by rw [sizeLine_eq]; omega
  have hrs := hRg.1
  refine wpAny_execs_cons (for_open ?_ (fun _ => rfl))
  refine Call_Name rfl (Name_function_global rfl rfl (loadGlobal_builtin (GG.ns.at' fun o e => F0.keep _ _ (bg _ _ e)) GG.range0 (GG.nb.at' fun o e => F0.keep _ _ (bg _ _ e)) GG.range (callWith_type1 (args_cons ?_))))
  refine x_callb (GG.ns.at' fun o e => F0.keep _ _ (bg _ _ e)) GG.len0 (GG.nb.at' fun o e => F0.keep _ _ (bg _ _ e)) GG.len (args_cons (wpAny_Name (wpAny_loadName_local rfl rfl F0.ns rfl (args_nil (len_list (hlg.at fun o e => F0.keep _ _ e) (by omega) (args_nil ?_))))))
  refine call_range_1 ?_
  rw [hrs]
  dsimp only
  refine iter_range (a := 0) (b := (rows.length : Int)) (c := 1) (F0.push _) (news_kept N0 (push_kept _ _)) (Heap.get?_push_size _ rfl) (range_up _ (by omega)).2 fun I g2 F2 N2 lt2 => ?_
  rw [(range_up rows.length (by omega)).1] at N2
  have N2 : News gg LL g2 ((I, rangeIt ((0 : Nat) : Int) ((rows.length : Int) - (0 : Nat)) 1) :: tabS tb tr) := by
    rw [show ((rows.length : Int) - (0 : Nat)) = rows.length by omega]; exact N2
  refine for_rng (g := gg) rows.length (PeelInv rl rits rows page0 width e tw te) (fun j m news h h' k J => ?_) rfl ?_ s ?_ rows.length 0 _ (tabS tb tr) g2 ⟨_, gb⟩ _ rfl (Nat.zero_le _) ?_ F2 N2 (fun p hp q => Nat.lt_irrefl _ (q ▸ lt2 p hp))
  · obtain ⟨a, b, c, d, f, e3, e4⟩ := J
    exact ⟨a, b, c, d, f, ks_list e3 k, ks_rf e4 k⟩
  · intro j m news h5 gs tk tv s₀ hj J F N hne
    obtain ⟨⟨tb5, tr5, rfl, b1, b2⟩, e1, e2, e3, ⟨tkr, e4⟩, e5, e6⟩ := J
    refine wpAny_pure ?_
    refine wpAny_assign_Name (wpAny_storeName_local rfl F.ns (fun g6 n6 k6 => ?_) rfl)
    obtain ⟨F6, N6⟩ := fr_assign F N n6 k6.extBut
    have ks6 := ks_store F.ns k6.extBut
    have L6 := ks_list e5 ks6
    have R6 := ks_rf e6 ks6
    clear e5 e6
    obtain ⟨oR, fR, hoR, hdR⟩ := GG.drepl
    obtain ⟨oT, fT, hoT, hdT⟩ := GG.dtext
    obtain ⟨oD, fD, hoD, hdD⟩ := GG.ddoc
    obtain ⟨oP, fP, hoP, hdP⟩ := GG.dpage
    have gl : ∀ {hh : Heap} {m' : Str → Option Value}, Fr gg LL hh m' → hh.Ns mainGlobals mg := fun F => GG.ns.at' fun o e => F.keep _ _ (bg _ _ e)
    have hj1 := hlen j (by omega)
    have z0 : (Str.ofString "").length = 0 := by decide
    dsimp only
    refine wpAny_execs_cons (wpAny_If (wpAny_isTrue_Compare1 (x_call (gl F6) GG.repl hdR ?_)))
    refine args_cons (wpAny_Name (wpAny_loadName_local rfl rfl F6.ns e4 (args_cons (wpAny_Name (wpAny_loadName_local rfl rfl F6.ns e3 (args_cons (wpAny_Constant_str (args_nil ?_))))))))
    refine ⟨F6.keep _ _ (bg _ _ hoR), use_replace G (own_nil bg F6) (by ktr_units) (by ktr_units) (by omega) he1 he2 (by omega) fun t7 g7 tk7 k7 => ?_⟩
    have F7 := fr_kept F6 k7
    refine x_call (gl F7) GG.text hdT (args_cons (x_flat rfl ?_))
    refine x_slice (wpAny_Name (wpAny_loadName_local rfl rfl F7.ns e1 (wpAny_evalPart_some (wpAny_Name (wpAny_loadName_local rfl rfl F7.ns rfl (wpAny_evalPart_none ⟨rl, rits, some (j : Int), none, rfl, ks_list L6 k7.ks, sz _ (by omega), .int _ _, .none, fun D g8 k8 l8 => ?_⟩))))))
    rw [slicePick_from'] at l8
    have R8 := (ks_rf R6 (k7.trans k8).ks).drop j
    obtain ⟨inner, q1, q2, q3⟩ := R8.inner
    have q4 := flat_len rows j
    have q5 : (flatL inner).length ≤ 30 := by have := q3.1; rw [List.size_toArray] at this; omega
    refine ⟨D, _, inner, rfl, gs.2, l8, by rw [R8.1, q1], sz _ (by omega), q2, fun D9 g9 gs9 tk9 k9 l9 => args_nil ?_⟩
    have F9 := fr_kept (fr_kept F7 k8) k9
    refine ⟨F9.keep _ _ (bg _ _ hoT), use_text G gs9.2 (own_nil bg F9) l9 (ks_tf q3 k9.ks) (by ktr_units) (by ktr_units) (by omega) (fun p hp => hg p (flat_sub hp)) fun t10 g10 gs10 tk10 k10 => ?_⟩
    have k610 : Kept g6 g10 := ((k7.trans k8).trans k9).trans k10
    have F10 := fr_kept F6 k610
    have N10 := news_kept N6 k610
    have L10 := ks_list L6 k610.ks
    have R10 := ks_rf R6 k610.ks
    clear F7 F9
    refine P.ne_str (wpAny_truthy_bool ?_)
    rw [hA j hj, bne_self_eq_false, if_neg (by decide)]
    refine wpAny_execs_nil ?_
    dsimp only
    refine wpAny_execs_cons (Assign_Tuple (x_call (gl F10) GG.doc hdD (args_cons (wpAny_BinOp (wpAny_Name (wpAny_loadName_local rfl rfl F10.ns e4 (wpAny_Name (wpAny_loadName_local rfl rfl F10.ns e3 (add_str (fun t11 tk11 => args_nil ?_) (by rw [sizeLine_eq]; omega))))))))))
    refine ⟨F10.keep _ _ (bg _ _ hoD), use_doc G (own_nil bg F10) (by ktr_units) (by ktr_units) (by rw [Str.length_append]; omega) fun a b tp t t' g12 tk12 d hget k12 => ?_⟩
    obtain ⟨ea, eb⟩ := hB j hj a b d
    subst ea eb
    have F12 := fr_kept F10 k12
    have N12 := news_kept N10 k12
    have L12 := ks_list L10 k12.ks
    have R12 := ks_rf R10 k12.ks
    clear F10 N10 L10 R10
    refine kcp_assign rfl ⟨_, hget, rfl, _, rfl⟩ rfl rfl rfl F12.ns fun g13 tk13 n13 k13 => ?_
    obtain ⟨F13, N13⟩ := fr_assign F12 N12 n13 k13
    have ks13 : KS g12 g13 := ks_store F12.ns fun b o hb e => k13 b o hb e
    have L13 := ks_list L12 ks13
    have R13 := ks_rf R12 ks13
    clear F12 N12 L12 R12
    dsimp only
    obtain ⟨r, ris, hx, hlr, hTr⟩ := R13.2 j hj
    have hrow : ∀ p ∈ rows[j], p ∈ rows.flatten := fun p hp => List.mem_flatten.mpr ⟨_, List.getElem_mem hj, hp⟩
    have hrl : rows[j].length ≤ 30 := by
      have h9 := flat_len rows j
      rw [List.drop_eq_getElem_cons hj, List.flatten_cons, List.length_append] at h9
      omega
    refine wpAny_execs_cons (wpAny_If (wpAny_isTrue_Compare1 (wpAny_Name (wpAny_loadName_local rfl rfl F13.ns rfl (MethodCall_ (x_call (gl F13) GG.text hdT ?_))))))
    refine args_cons (Subscript_ (wpAny_Name (wpAny_loadName_local rfl rfl F13.ns e1 (wpAny_Name (wpAny_loadName_local rfl rfl F13.ns rfl (item_list L13 (by omega) (by omega) (x := .ref r) (by rw [Int.toNat_natCast]; exact hx) (args_nil ?_)))))))
    refine ⟨F13.keep _ _ (bg _ _ hoT), use_text G gs10.2 (own_nil bg F13) hlr hTr (by ktr_units) (by ktr_units) (by omega) (fun p hp => hg p (hrow p hp)) fun t14 g14 gs14 tk14 k14 => ?_⟩
    have htl : (txt rows[j]).length ≤ 9000 := by
      have h8 := txt_length rows[j]
      have h9 := lenP_le (ps := rows[j]) fun p hp => ⟨(hg p (hrow p hp)).f2, (hg p (hrow p hp)).r2⟩
      omega
    refine GM.strip (callWith_method1 (args_cons (wpAny_Constant_str (args_nil (SC.stripChars (fun t15 tk15 => ?_) (by rw [sizeLine_eq]; omega))))))
    refine P.ne_str (wpAny_truthy_bool ?_)
    rw [bne_self_eq_false, if_neg (by decide)]
    refine wpAny_execs_nil ?_
    dsimp only
    have F14 := fr_kept F13 k14
    have N14 := news_kept N13 k14
    have L14 := ks_list L13 k14.ks
    have R14 := ks_rf R13 k14.ks
    clear F13 N13 L13 R13
    refine wpAny_execs_cons (wpAny_If (wpAny_isTrue_Compare1 (wpAny_Name (wpAny_loadName_local rfl rfl F14.ns rfl (x_call (gl F14) GG.page hdP (args_cons (x_flat rfl ?_)))))))
    refine x_slice (wpAny_Name (wpAny_loadName_local rfl rfl F14.ns e1 (wpAny_evalPart_some (wpAny_BinOp (wpAny_Name (wpAny_loadName_local rfl rfl F14.ns rfl (wpAny_Constant_int (P.add_int (wpAny_evalPart_none ⟨rl, rits, some (j + 1 : Int), none, rfl, L14, sz _ (by omega), .int _ _, .none, fun D g15 k15 l15 => ?_⟩)))))))))
    rw [show ((j : Int) + 1) = ((j + 1 : Nat) : Int) by omega, slicePick_from'] at l15
    have R15 := (ks_rf R14 k15.ks).drop (j + 1)
    obtain ⟨inner2, p1, p2, p3⟩ := R15.inner
    have p4 := flat_len rows (j + 1)
    have p5 : (flatL inner2).length ≤ 30 := by have := p3.1; rw [List.size_toArray] at this; omega
    refine ⟨D, _, inner2, rfl, gs14.2, l15, by rw [R15.1, p1], sz _ (by omega), p2, fun D9 g16 gs16 tk16 k16 l16 => ?_⟩
    have F16 := fr_kept (fr_kept F14 k15) k16
    have N16 := news_kept (news_kept N14 k15) k16
    refine args_cons (wpAny_Constant_int (args_cons (wpAny_Name (wpAny_loadName_local rfl rfl F16.ns e2 (args_cons (wpAny_Name (wpAny_loadName_local rfl rfl F16.ns e3 (args_nil ?_))))))))
    have N16' : News gg LL g16 (tabS tb5 tr5 ++ [(I, rangeIt ((j + 1 : Nat) : Int) ((rows.length : Int) - (j + 1 : Nat)) 1)]) := news_sub N16 fun p hp => by
      simp only [tabS, List.mem_append, List.mem_cons, List.not_mem_nil, or_false] at hp ⊢
      rcases hp with (h | h) | h <;> simp [h]
    refine ⟨F16.keep _ _ (bg _ _ hoP), use_page G gs16.2 bg F16 N16' (by simp) l16 (ks_tf p3 k16.ks) b1 b2 (by ktr_units) (by ktr_units) (by decide) (by decide) (fun p hp => hg p (flat_sub hp)) (by omega) (.inr rfl) he2 fun tb17 tr17 t17 g17 gs17 tk17 c1 c2 F17 N17 ks17 => ?_⟩
    refine P.ne_str (wpAny_truthy_bool ?_)
    rw [show restF page0 width e rows (j + 1) = pageF width 0 e (rows.drop (j + 1)).flatten from rfl, bne_self_eq_false, if_neg (by decide)]
    refine wpAny_execs_nil (wpAny_execs_nil ?_)
    have ksz : KS g14 g17 := (k15.trans k16).ks.trans ks17
    refine ⟨_, tabS tb17 tr17, g17, _, _, rfl, ?_, F17, news_sub N17 fun p hp => ?_, fun p hp => ?_⟩
    · exact ⟨⟨tb17, tr17, rfl, c1, c2⟩, e1, e2, e3, ⟨_, rfl⟩, ks_list L14 ksz, ks_rf R14 ksz⟩
    · simp only [tabS, List.mem_append, List.mem_cons, List.not_mem_nil, or_false] at hp ⊢
      rcases hp with h | h | h <;> simp [h]
    · simp only [tabS, List.mem_cons, List.not_mem_nil, or_false] at hp
      rcases hp with rfl | rfl
      · exact hne (161, tabObj tb5) (.head _)
      · exact hne (168, tabObj tr5) (.tail _ (.head _))
  · intro m news h9 gs tk J F N
    obtain ⟨⟨tb', tr', rfl, b1, b2⟩, _⟩ := J
    refine wpAny_execs_nil ?_
    dsimp only
    refine wpAny_execs_cons (wpAny_Return_some (wpAny_Constant_bool ?_))
    exact h tb' tr' _ _ _ b1 b2 (own_of bg F N) (kp_of hid F)
  · refine ⟨⟨tb, tr, rfl, htb, htr⟩, rfl, rfl, rfl, ⟨_, rfl⟩, hlg.at fun o e => F2.keep _ _ e, ks_rf hRg fun b o e _ => F2.keep _ _ e⟩
end
section
theorem clear_M4 : True := by
  k_with_none
  w_top off
  trivial
section
variable {A : Around} {E : Value → Shared → Prop} {Q : Value → Shared → Prop} {env : Env} {scope : Scope} {pos p1 p2 p3 p4 p5 p6 : Pos}
noncomputable def ne (row : Row) : Bool := !row.isEmpty
theorem row_empty {h : Heap} {ris : Array Value} {row : Row} (hT : TF h ris row) : (!ris.isEmpty) = ne row := by
  have hs := hT.1
  unfold ne
  congr 1
  cases row with
  | nil => rw [Array.eq_empty_of_size_eq_zero hs]; rfl
  | cons p r =>
    rw [show List.isEmpty (p :: r) = false from rfl, Array.isEmpty_eq_false_iff]
    intro e
    rw [e] at hs
    simp at hs
theorem own_name (x : Str) (p : Pos) (v : Value) : OwnAt Challenge.rw_ph0143_01.row.prog w A (.Name x p) v := fun I l i s Q E _ hQ => wpAny_pure hQ
theorem strsAre_nil_iff {ys : List Value} : StrsAre ys [] → ys = [] := fun h => by cases h; rfl
theorem comp_texts {rows : List Row} (G : GW w mean mg mb b₀) (hdp : dp < 750) (hun : un < 1500) (hg : ∀ row ∈ rows, ∀ p ∈ row, GoodP p) (hn : ∀ row ∈ rows, row.length ≤ 80) (hrn : rows.length ≤ 80)
    (h : wpAny (model Challenge.rw_ph0143_01.row.prog w) (mkA dp un gd fs) (eval (.Name (Str.ofString "rows") p5) env) (fun v s₁ => ∃ l its, v = .ref l ∧ AllBare s₁.gens ∧ s₁.heap.IsList l its ∧ RF s₁.heap its rows ∧ (∀ b o, b₀.get? b = some o → s₁.heap.get? b = some o) ∧ s₁.heap.Ns env.globals mg ∧
      ∀ D h' (gs : BG) tk ys, StrsAre ys (rows.map txt) → Kept s₁.heap h' → h'.get? D = some (LCg.lst ys) → Q (.ref D) ⟨h', gs.1, s₁.drawn, tk, s₁.os⟩) E s)
    (hclos : closureFor scope env = pure [] := by rfl) (hcell : ∀ y ∈ scope.names, y.2 ≠ .cell := by decide) (hkind : scope.kind = .function := by rfl)
    (hnames : ∀ y ∈ scope.names, y.2 = .local → scope.names.lookup y.1 = some .local := by decide) (hs : ∀ x, foldedSetIterable (.Name (Str.ofString "rows") p5) env x = pure x := by intro _; rfl)
    (hx : ∀ C, (compEnvC scope [] C env).kindOf (Str.ofString "row") = some .local := by intro _; rfl) (ht : ∀ C, (compEnvC scope [] C env).kindOf (Str.ofString "_law_text") = some .globalImplicit := by intro _; rfl)
    (hp : ∀ C, ((compEnvC scope [] C env).scope.kind == .class || ((compEnvC scope [] C env).scope.kind == .module && (compEnvC scope [] C env).locals != (compEnvC scope [] C env).globals)) = false := by intro _; rfl) :
    wpAny (model Challenge.rw_ph0143_01.row.prog w) (mkA dp un gd fs) (eval (.ListComp (.Call (.Name (Str.ofString "_law_text") p1) [.Name (Str.ofString "row") p2] [] p3) [⟨.Name (Str.ofString "row") p4, .Name (Str.ofString "rows") p5, [], 0⟩] scope pos) env) Q E s := by
  have GG := GL.of G
  obtain ⟨oT, fT, hoT, hdT⟩ := GG.dtext
  refine comp1 rfl hclos hcell hkind hnames hs (wpAny_mono h (fun v s₁ h₁ => ?_) fun _ _ e => e)
  obtain ⟨l, its, rfl, gb, hl, hR, hb, hgl, fin⟩ := h₁
  refine ⟨l, its, fun j ys => StrsAre ys ((rows.take j).map txt), rfl, gb, hl, by rw [hR.1, sizeLine_eq]; omega, ?_, fun j v _ => own_name _ _ _, ?_, .nil, ?_⟩
  · intro j ys hs
    rw [strsAre_len hs, List.length_map]
    exact List.length_take_le _ _
  · intro C j v ys hv J m h gs tk E kk hC nn
    have hj : j < rows.length := by have := (Array.getElem?_eq_some_iff.mp hv).1; have := hR.1; omega
    obtain ⟨r, ris, hx1, hlr, hTr⟩ := hR.2 j hj
    rw [hx1] at hv
    cases hv
    refine wpAny_assign_Name (wpAny_storeName_local (hx C) nn (fun h3 n3 k3 => ?_) (hp C))
    refine wpAny_tests_nil ⟨h3, gs, _, _, rfl, k3.extBut, n3, ?_⟩
    rw [if_pos rfl]
    have kk3 : Kept s₁.heap h3 := kk.but hC k3.extBut
    refine x_call (hgl.at' fun o e => kk3 _ _ e) GG.text hdT ?_ hkind (ht C)
    refine args_cons (wpAny_Name (wpAny_loadName_local (v := .ref r) hkind (hx C) n3 (if_pos rfl) (args_nil ?_)))
    refine ⟨kk3 _ _ (hb _ _ hoT), use_text G (Subtype.property _) ⟨fun b o e => kk3 _ _ (hb _ _ e), fun _ q => absurd q List.not_mem_nil⟩ (ks_list hlr kk3.ks) (ks_tf hTr kk3.ks) hdp hun (hn _ (List.getElem_mem hj)) (hg _ (List.getElem_mem hj)) fun t' h' gs' tk' k' => ?_⟩
    refine ⟨h', gs', tk', rfl, k', ?_⟩
    show StrsAre _ ((rows.take (j + 1)).map txt)
    rw [List.take_succ_eq_append_getElem hj, List.map_append]
    exact strsAre_snoc J _ _
  · intro D h2 gs tk ys J k hD d
    have J : StrsAre ys ((rows.take its.size).map txt) := J
    rw [hR.1, List.take_length] at J
    exact fin D h2 gs tk ys J k d
theorem comp_texts_if {rows : List Row} (G : GW w mean mg mb b₀) (hdp : dp < 750) (hun : un < 1500) (hg : ∀ row ∈ rows, ∀ p ∈ row, GoodP p) (hn : ∀ row ∈ rows, row.length ≤ 80) (hrn : rows.length ≤ 80)
    (h : wpAny (model Challenge.rw_ph0143_01.row.prog w) (mkA dp un gd fs) (eval (.Name (Str.ofString "rows") p5) env) (fun v s₁ => ∃ l its, v = .ref l ∧ AllBare s₁.gens ∧ s₁.heap.IsList l its ∧ RF s₁.heap its rows ∧ (∀ b o, b₀.get? b = some o → s₁.heap.get? b = some o) ∧ s₁.heap.Ns env.globals mg ∧
      ∀ D h' (gs : BG) tk ys, StrsAre ys ((rows.filter ne).map txt) → Kept s₁.heap h' → h'.get? D = some (LCg.lst ys) → Q (.ref D) ⟨h', gs.1, s₁.drawn, tk, s₁.os⟩) E s)
    (hclos : closureFor scope env = pure [] := by rfl) (hcell : ∀ y ∈ scope.names, y.2 ≠ .cell := by decide) (hkind : scope.kind = .function := by rfl)
    (hnames : ∀ y ∈ scope.names, y.2 = .local → scope.names.lookup y.1 = some .local := by decide) (hs : ∀ x, foldedSetIterable (.Name (Str.ofString "rows") p5) env x = pure x := by intro _; rfl)
    (hx : ∀ C, (compEnvC scope [] C env).kindOf (Str.ofString "row") = some .local := by intro _; rfl) (ht : ∀ C, (compEnvC scope [] C env).kindOf (Str.ofString "_law_text") = some .globalImplicit := by intro _; rfl)
    (hp : ∀ C, ((compEnvC scope [] C env).scope.kind == .class || ((compEnvC scope [] C env).scope.kind == .module && (compEnvC scope [] C env).locals != (compEnvC scope [] C env).globals)) = false := by intro _; rfl) :
    wpAny (model Challenge.rw_ph0143_01.row.prog w) (mkA dp un gd fs) (eval (.ListComp (.Call (.Name (Str.ofString "_law_text") p1) [.Name (Str.ofString "row") p2] [] p3) [⟨.Name (Str.ofString "row") p4, .Name (Str.ofString "rows") p5, [.Name (Str.ofString "row") p6], 0⟩] scope pos) env) Q E s := by
  have GG := GL.of G
  obtain ⟨oT, fT, hoT, hdT⟩ := GG.dtext
  refine comp1 rfl hclos hcell hkind hnames hs (wpAny_mono h (fun v s₁ h₁ => ?_) fun _ _ e => e)
  obtain ⟨l, its, rfl, gb, hl, hR, hb, hgl, fin⟩ := h₁
  refine ⟨l, its, fun j ys => StrsAre ys (((rows.take j).filter ne).map txt), rfl, gb, hl, by rw [hR.1, sizeLine_eq]; omega, ?_, fun j v _ => own_name _ _ _, ?_, .nil, ?_⟩
  · intro j ys hs
    rw [strsAre_len hs, List.length_map]
    exact Nat.le_trans (List.length_filter_le _ _) (List.length_take_le _ _)
  · intro C j v ys hv J m h gs tk E kk hC nn
    have hj : j < rows.length := by have := (Array.getElem?_eq_some_iff.mp hv).1; have := hR.1; omega
    obtain ⟨r, ris, hx1, hlr, hTr⟩ := hR.2 j hj
    rw [hx1] at hv
    cases hv
    refine wpAny_assign_Name (wpAny_storeName_local (hx C) nn (fun h3 n3 k3 => ?_) (hp C))
    have kk3 : Kept s₁.heap h3 := kk.but hC k3.extBut
    have e9 : rows.take (j + 1) = rows.take j ++ [rows[j]] := List.take_succ_eq_append_getElem hj
    refine wpAny_tests_one (isTrue_plain (wpAny_Name (wpAny_loadName_local (v := .ref r) hkind (hx C) n3 (if_pos rfl) (wpAny_truthy_list (ks_list hlr kk3.ks) (by have := hTr.1; have := hn _ (List.getElem_mem hj); omega) ?_))))
    refine ⟨h3, gs, _, _, rfl, k3.extBut, n3, ?_⟩
    have hem := row_empty hTr
    cases hne : ne rows[j] with
    | false =>
      rw [hem, hne, if_neg (by decide)]
      show StrsAre ys (((rows.take (j + 1)).filter ne).map txt)
      rw [e9, List.filter_append, List.filter_cons_of_neg (by simp [hne]), List.filter_nil, List.append_nil]
      exact J
    | true =>
    rw [hem, hne, if_pos rfl]
    refine x_call (hgl.at' fun o e => kk3 _ _ e) GG.text hdT ?_ hkind (ht C)
    refine args_cons (wpAny_Name (wpAny_loadName_local (v := .ref r) hkind (hx C) n3 (if_pos rfl) (args_nil ?_)))
    refine ⟨kk3 _ _ (hb _ _ hoT), use_text G (Subtype.property _) ⟨fun b o e => kk3 _ _ (hb _ _ e), fun _ q => absurd q List.not_mem_nil⟩ (ks_list hlr kk3.ks) (ks_tf hTr kk3.ks) hdp hun (hn _ (List.getElem_mem hj)) (hg _ (List.getElem_mem hj)) fun t' h' gs' tk' k' => ?_⟩
    refine ⟨h', gs', tk', rfl, k', ?_⟩
    show StrsAre _ (((rows.take (j + 1)).filter ne).map txt)
    rw [e9, List.filter_append, List.filter_cons_of_pos hne, List.filter_nil, List.map_append]
    exact strsAre_snoc J _ _
  · intro D h2 gs tk ys J k hD d
    have J : StrsAre ys (((rows.take its.size).filter ne).map txt) := J
    rw [hR.1, List.take_length] at J
    exact fin D h2 gs tk ys J k d
theorem comp_rows_if {rows : List Row} (hn : ∀ row ∈ rows, row.length ≤ 80) (hrn : rows.length ≤ 80)
    (h : wpAny (model Challenge.rw_ph0143_01.row.prog w) (mkA dp un gd fs) (eval (.Name (Str.ofString "rows") p5) env) (fun v s₁ => ∃ l its, v = .ref l ∧ AllBare s₁.gens ∧ s₁.heap.IsList l its ∧ RF s₁.heap its rows ∧
      ∀ D h' (gs : BG) tk ys, RF s₁.heap ys.toArray (rows.filter ne) → Kept s₁.heap h' → h'.get? D = some (LCg.lst ys) → Q (.ref D) ⟨h', gs.1, s₁.drawn, tk, s₁.os⟩) E s)
    (hclos : closureFor scope env = pure [] := by rfl) (hcell : ∀ y ∈ scope.names, y.2 ≠ .cell := by decide) (hkind : scope.kind = .function := by rfl)
    (hnames : ∀ y ∈ scope.names, y.2 = .local → scope.names.lookup y.1 = some .local := by decide) (hs : ∀ x, foldedSetIterable (.Name (Str.ofString "rows") p5) env x = pure x := by intro _; rfl)
    (hx : ∀ C, (compEnvC scope [] C env).kindOf (Str.ofString "row") = some .local := by intro _; rfl)
    (hp : ∀ C, ((compEnvC scope [] C env).scope.kind == .class || ((compEnvC scope [] C env).scope.kind == .module && (compEnvC scope [] C env).locals != (compEnvC scope [] C env).globals)) = false := by intro _; rfl) :
    wpAny (model Challenge.rw_ph0143_01.row.prog w) (mkA dp un gd fs) (eval (.ListComp (.Name (Str.ofString "row") p2) [⟨.Name (Str.ofString "row") p4, .Name (Str.ofString "rows") p5, [.Name (Str.ofString "row") p6], 0⟩] scope pos) env) Q E s := by
  refine comp1 rfl hclos hcell hkind hnames hs (wpAny_mono h (fun v s₁ h₁ => ?_) fun _ _ e => e)
  obtain ⟨l, its, rfl, gb, hl, hR, fin⟩ := h₁
  refine ⟨l, its, fun j ys => RF s₁.heap ys.toArray ((rows.take j).filter ne), rfl, gb, hl, by rw [hR.1, sizeLine_eq]; omega, ?_, fun j v _ => own_name _ _ _, ?_, ⟨rfl, fun j hj => absurd hj (Nat.not_lt_zero _)⟩, ?_⟩
  · intro j ys hs
    have := hs.1
    rw [List.size_toArray] at this
    rw [this]
    exact Nat.le_trans (List.length_filter_le _ _) (List.length_take_le _ _)
  · intro C j v ys hv J m h gs tk E kk hC nn
    have hj : j < rows.length := by have := (Array.getElem?_eq_some_iff.mp hv).1; have := hR.1; omega
    obtain ⟨r, ris, hx1, hlr, hTr⟩ := hR.2 j hj
    rw [hx1] at hv
    cases hv
    refine wpAny_assign_Name (wpAny_storeName_local (hx C) nn (fun h3 n3 k3 => ?_) (hp C))
    have kk3 : Kept s₁.heap h3 := kk.but hC k3.extBut
    have e9 : rows.take (j + 1) = rows.take j ++ [rows[j]] := List.take_succ_eq_append_getElem hj
    refine wpAny_tests_one (isTrue_plain (wpAny_Name (wpAny_loadName_local (v := .ref r) hkind (hx C) n3 (if_pos rfl) (wpAny_truthy_list (ks_list hlr kk3.ks) (by have := hTr.1; have := hn _ (List.getElem_mem hj); omega) ?_))))
    refine ⟨h3, gs, _, _, rfl, k3.extBut, n3, ?_⟩
    have hem := row_empty hTr
    cases hne : ne rows[j] with
    | false =>
      rw [hem, hne, if_neg (by decide)]
      show RF s₁.heap ys.toArray ((rows.take (j + 1)).filter ne)
      rw [e9, List.filter_append, List.filter_cons_of_neg (by simp [hne]), List.filter_nil, List.append_nil]
      exact J
    | true =>
    rw [hem, hne, if_pos rfl]
    refine wpAny_Name (wpAny_loadName_local (v := .ref r) hkind (hx C) n3 (if_pos rfl) ⟨h3, gs, _, rfl, Kept.refl _, ?_⟩)
    show RF s₁.heap (ys ++ [Value.ref r]).toArray ((rows.take (j + 1)).filter ne)
    rw [e9, List.filter_append, List.filter_cons_of_pos hne, List.filter_nil]
    have := RF.append J (RF.one hlr hTr)
    rwa [show ys.toArray ++ #[Value.ref r] = (ys ++ [Value.ref r]).toArray by simp] at this
  · intro D h2 gs tk ys J k hD d
    have J : RF s₁.heap ys.toArray ((rows.take its.size).filter ne) := J
    rw [hR.1, List.take_length] at J
    exact fin D h2 gs tk ys J k d
end
end
section
theorem clear_M5 : True := by
  k_with_none
  w_top off
  trivial
structure Tale (head width : Int) (e : Str) (ps : Row) : Prop where
  h1 : 0 ≤ head
  h2 : head ≤ 40
  w1 : 0 ≤ width
  w2 : width ≤ 40
  e1 : 1 ≤ e.length
  e2 : e.length ≤ 10
  page : pageF width head e ps = Txt.join e ((rowsOf (rowsF head width ps)).map txt)
  bare : ∀ a b, docR (Txt.join (Str.ofString "\n") (Txt.split (pageF width head e ps ++ e) e)) a b → a = Str.ofString "" ∧ b = Txt.stripChars (Txt.join (Str.ofString "\n") (((rowsOf (rowsF head width ps)).filter ne).map txt)) (Str.ofString " ")
  hlen : ∀ k, k ≤ ((rowsOf (rowsF head width ps)).filter ne).length → (restF (pageF width head e ps) width e ((rowsOf (rowsF head width ps)).filter ne) k).length ≤ 9000
  hA : ∀ k, k < ((rowsOf (rowsF head width ps)).filter ne).length → Txt.join (Str.ofString "") (Txt.split (restF (pageF width head e ps) width e ((rowsOf (rowsF head width ps)).filter ne) k) e) = txt (((rowsOf (rowsF head width ps)).filter ne).drop k).flatten
  hB : ∀ k (hk : k < ((rowsOf (rowsF head width ps)).filter ne).length), ∀ a b, docR (restF (pageF width head e ps) width e ((rowsOf (rowsF head width ps)).filter ne) k ++ e) a b →
    a = Txt.stripChars (txt ((rowsOf (rowsF head width ps)).filter ne)[k]) (Str.ofString " ") ∧ b = restF (pageF width head e ps) width e ((rowsOf (rowsF head width ps)).filter ne) (k + 1)
theorem rowsF_flat (head width : Int) (ps : Row) : ∀ j, j ≤ ps.length → (rowsOf (rowsF head width (ps.take j))).flatten = ps.take j ∧ (rowsOf (rowsF head width (ps.take j))).length ≤ j + 1 := by
  intro j
  induction j with
  | zero => exact fun _ => ⟨rfl, Nat.le_refl _⟩
  | succ j ih =>
    intro hj
    obtain ⟨a, b⟩ := ih (by omega)
    rw [rowsF_take head width ps j hj, List.take_succ_eq_append_getElem hj]
    generalize rowsF head width (ps.take j) = st at *
    unfold rowsF1 rowsOf at *
    split
    · refine ⟨?_, ?_⟩
      · rw [← a]
        simp
      · simp at b ⊢; omega
    · refine ⟨?_, ?_⟩
      · rw [← a]
        simp
      · simp at b ⊢; omega
theorem rows_flat (head width : Int) (ps : Row) : (rowsOf (rowsF head width ps)).flatten = ps ∧ (rowsOf (rowsF head width ps)).length ≤ ps.length + 1 := by
  have := rowsF_flat head width ps ps.length (Nat.le_refl _)
  rwa [List.take_length] at this
theorem flat_ne (rows : List Row) : (rows.filter ne).flatten = rows.flatten := by
  induction rows with
  | nil => rfl
  | cons r rows ih =>
    cases h : ne r with
    | true => rw [List.filter_cons_of_pos h, List.flatten_cons, List.flatten_cons, ih]
    | false =>
      rw [List.filter_cons_of_neg (by simp [h]), ih, List.flatten_cons]
      have : r = [] := by
        unfold ne at h
        cases r with
        | nil => rfl
        | cons _ _ => simp at h
      rw [this, List.nil_append]
theorem sum_txt (rows : List Row) : ((((rows.map txt).map (·.length)).sum : Nat) : Int) = lenP rows.flatten := by
  induction rows with
  | nil => rfl
  | cons r rows ih =>
    have := txt_length r
    simp only [List.map_cons, List.sum_cons, List.flatten_cons]
    rw [lenP_app]
    omega
theorem rows_ok {rows : List Row} {e : Str} (hg : ∀ p ∈ rows.flatten, GoodP p) (hn : rows.flatten.length ≤ 60) (hr : rows.length ≤ 60) (he : e.length ≤ 10) : JoinOk e (rows.map txt) = true := by
  refine joinOk_of _ _ ?_
  rw [sum_add]
  have h1 := sum_txt rows
  have h2 := lenP_le fun p hp => ⟨(hg p hp).f2, (hg p hp).r2⟩
  have h5 : (rows.map txt).length * e.length ≤ 60 * 10 := Nat.mul_le_mul (by rw [List.length_map]; exact hr) he
  rw [sizeLine_eq]
  omega
section
variable {g : Heap} {L : Addr} {m : Str → Option Value} {rest : List (Addr × Obj)} {E : Value → Shared → Prop} {Q : Value → Shared → Prop}
theorem use_peel {rl : Nat} {rits : Array Value} {rows : List Row} {page0 : Str} {width : Int} {e : Str} {tp tw te : Tok} {tb tr : Array Value} (G : GW w mean mg mb b₀) (gb : AllBare s.gens) (bg : ∀ b o, b₀.get? b = some o → g.get? b = some o) (F : Fr g L s.heap m) (N : News g L s.heap (tabS tb tr ++ rest)) (hrest : ∀ q ∈ rest, q.2.cls ≠ .none)
    (htb : TabOk posLen tb) (htr : TabOk posStr tr) (hl : s.heap.IsList rl rits) (hR : RF s.heap rits rows)
    (hdp : dp < 720) (hun : un < 1200) (hg : ∀ p ∈ rows.flatten, GoodP p) (hn : rows.flatten.length ≤ 30) (hrn : rows.length ≤ 30) (he1 : 1 ≤ e.length) (he2 : e.length ≤ 10)
    (hlen : ∀ k, k ≤ rows.length → (restF page0 width e rows k).length ≤ 9000)
    (hA : ∀ k, k < rows.length → Txt.join (Str.ofString "") (Txt.split (restF page0 width e rows k) e) = txt (rows.drop k).flatten)
    (hB : ∀ k (hk : k < rows.length), ∀ a b, docR (restF page0 width e rows k ++ e) a b → a = Txt.stripChars (txt rows[k]) (Str.ofString " ") ∧ b = restF page0 width e rows (k + 1))
    (h : ∀ tb' tr' h' (gs : BG) tk', TabOk posLen tb' → TabOk posStr tr' → Fr g L h' m → News g L h' (tabS tb' tr' ++ rest) → KS s.heap h' → Q (.bool true) ⟨h', gs.1, s.drawn, tk', s.os⟩) :
    wpAny (model Challenge.rw_ph0143_01.row.prog w) (mkA dp un gd fs) (call (.ref 234) [.str page0 tp, .ref rl, .int width tw, .str e te]) Q E s := by
  have O : Own b₀ s.heap (tabS tb tr) := (own_of bg F N).sub fun p hp => List.mem_append.mpr (.inl hp)
  refine wpAny_call (peeled_spec rl rits rows page0 width e tp tw te tb tr G gb O htb htr hl hR hdp hun hg hn hrn he1 he2 hlen hA hB fun tb' tr' h' gs tk' b1 b2 O' K' => ?_)
  obtain ⟨F', N'⟩ := after_sem (rest := rest) F N (fun p hp => List.mem_append.mpr (.inl hp)) (fun p hp => List.mem_append.mpr (.inr hp)) (fun p hp q hq e => hrest q hq (by
      rw [← e]
      simp only [tabS, List.mem_cons, List.not_mem_nil, or_false] at hp
      rcases hp with rfl | rfl <;> rfl)) K' O' (List.forall_mem_cons.mpr ⟨.inl ⟨_, .head _⟩, List.forall_mem_cons.mpr ⟨.inl ⟨_, .tail _ (.head _)⟩, List.forall_mem_nil _⟩⟩)
  refine h tb' tr' h' gs tk' b1 b2 F' N' (ks_kp O (fun p hp => ?_) K')
  simp only [tabS, List.mem_cons, List.not_mem_nil, or_false] at hp
  rcases hp with rfl | rfl <;> exact ⟨_, rfl⟩
theorem ne_pairs {A : Around} {D1 D2 : Addr} {x y : Str} {t1 t2 t3 t4 : Tok} {n1 n2 : Nat} (h1 : s.heap.get? D1 = some ({ cls := .type "tuple", data := .seq #[.str x t1, .str y t2] n1 } : Obj)) (h2 : s.heap.get? D2 = some ({ cls := .type "tuple", data := .seq #[.str x t3, .str y t4] n2 } : Obj)) (hu : A.units < cLine)
    (h : Q (.bool false) s) : wpAny (model Challenge.rw_ph0143_01.row.prog w) A (compareOp .NotEq (.ref D1) (.ref D2)) Q E s := by
  refine SeqAt.RcNeAt.tuples (items := #[.str x t1, .str y t2]) (items2 := #[.str x t3, .str y t4]) (e := fun j => true) ⟨_, h1, rfl, _, rfl⟩ ⟨_, h2, rfl, _, rfl⟩ hu (fun j q1 q2 => ?_) _ w E Q h
  match j, q1, q2 with
  | 0, _, _ => have := SeqAt.EqAt.str_str (A := A.in1) (s := s) x t1 x t3; rw [beq_self_eq_true] at this; exact this
  | 1, _, _ => have := SeqAt.EqAt.str_str (A := A.in1) (s := s) y t2 y t4; rw [beq_self_eq_true] at this; exact this
end
end
section
theorem clear_M6 : True := by
  k_with_none
  w_top off
  trivial
noncomputable def trips (s : Int) : List (Int × Int × Str) := [(0, (9 + s).fmod 20, Str.ofString "\n\n"), (4, (11 + s).fmod 20, Str.ofString "\n \n"), (7, (8 + s).fmod 20, Str.ofString "\n\t \n")]
noncomputable def TT (h : Heap) (its : Array Value) (l : List (Int × Int × Str)) : Prop :=
  its.size = l.length ∧ ∀ j (hj : j < l.length), ∃ a t1 t2 t3, its[j]? = some (.ref a) ∧ h.IsTuple a #[.int l[j].1 t1, .int l[j].2.1 t2, .str l[j].2.2 t3]
theorem ks_tt {h h' : Heap} {its : Array Value} {l : List (Int × Int × Str)} (T : TT h its l) (k : KS h h') : TT h' its l :=
  ⟨T.1, fun j hj => let ⟨a, t1, t2, t3, e, f⟩ := T.2 j hj; ⟨a, t1, t2, t3, e, ks_tup f k⟩⟩
noncomputable def LawInv (lw T : Nat) (wl its : Array Value) (ps : Row) (l : List (Int × Int × Str)) (j : Nat) (m : Str → Option Value) (news : List (Addr × Obj)) (h : Heap) : Prop :=
  (∃ tb tr, news = tabS tb tr ∧ TabOk posLen tb ∧ TabOk posStr tr) ∧ m (Str.ofString "words") = some (.ref lw) ∧ h.IsList lw wl ∧ TF h wl ps ∧ h.IsTuple T its ∧ TT h its l
theorem x_sum {prog : Program} {A : Around} {E : Value → Shared → Prop} {l : Addr} {vs : List Value} {ns : List Int} {Q : Value → Shared → Prop} (hh : A.handled = none) (hl : s.heap.IsList l vs.toArray) (hi : IntsAre vs ns)
    (h : ∀ h' tk t', Kept s.heap h' → Q (.int ns.sum t') { s with heap := h', toks := tk }) : wpAny (model prog w) A (call (.builtin "sum") [.ref l]) Q E s := by
  obtain ⟨xs, hx⟩ := hi.allInts.items
  have hl' : s.heap.IsList l (intItems xs) := hx ▸ hl
  refine sum_intListG hh hl' fun h' tk t' hk => ?_
  have e1 : ns = xs.toList.map (·.1) := by
    rw [← nums_intItems, ← hx]
    exact (show numsOf vs.toArray.toList = ns from hi.numsOf).symm
  have e2 : preSum (numAt xs) xs.size = ns.sum := by
    rw [preSum_eq, List.take_of_length_le (by simp), e1]
  rw [e2]
  exact h h' tk t' hk
theorem sjoin_le {z y : Str} (h : z.length ≤ y.length) : ∀ l : List Str, (Str.join z l).length ≤ (Str.join y l).length
  | [] => Nat.le_refl _
  | [x] => Nat.le_refl _
  | x :: x2 :: r => by
    have ih := sjoin_le h (x2 :: r)
    show (x ++ z ++ Str.join z (x2 :: r)).length ≤ (x ++ y ++ Str.join y (x2 :: r)).length
    rw [Str.length_append, Str.length_append, Str.length_append, Str.length_append]
    omega
theorem tjoin (z : Str) (l : List Str) : Txt.join z l = Str.join z l := StrLaws.glued_eq_join ..
theorem repl_le {z y x : Str} (h : z.length ≤ y.length) : (Txt.join z (Txt.split x y)).length ≤ x.length := by
  rw [tjoin]
  have := sjoin_le h (Txt.split x y)
  rwa [StrLaws.join_split] at this
theorem join_le (z : Str) (l : List Str) : (Txt.join z l).length ≤ (l.map fun x => x.length + z.length).sum := by
  rw [tjoin]
  by_cases h : l = []
  · subst h; exact Nat.le_refl _
  · rw [join_len z l h]; omega
theorem texts_le {rows : List Row} {e : Str} (hg : ∀ p ∈ rows.flatten, GoodP p) (hn : rows.flatten.length ≤ 60) (hr : rows.length ≤ 60) (he : e.length ≤ 10) : (Txt.join e (rows.map txt)).length ≤ 20000 := by
  refine Nat.le_trans (join_le _ _) ?_
  rw [sum_add]
  have h1 := sum_txt rows
  have h2 := lenP_le fun p hp => ⟨(hg p hp).f2, (hg p hp).r2⟩
  have h5 : (rows.map txt).length * e.length ≤ 60 * 10 := Nat.mul_le_mul (by rw [List.length_map]; exact hr) he
  omega
theorem law_spec (l : Nat) (vs : List Value) (ns : List Int) (tb tr : Array Value) (G : GW w mean mg mb b₀) (gb : AllBare s.gens) (O : Own b₀ s.heap (tabS tb tr)) (htb : TabOk posLen tb) (htr : TabOk posStr tr) (hl : s.heap.IsList l vs.toArray) (hi : IntsAre vs ns) (hdp : dp < 700) (hun : un < 1000) (hn : ns.length ≤ 80)
    (hg : ∀ p ∈ wordsF (ns.take 6), GoodP p) (hdot : ∀ p ∈ wordsF (ns.take 6), ∀ c ∈ p.1.cps.toList ++ p.2.cps.toList, c ≠ 46)
    (hT : ∀ t ∈ trips (ns.take 6).sum, Tale t.1 t.2.1 t.2.2 (wordsF (ns.take 6)))
    (h : ∀ tb' tr' h' (gs : BG) tk', TabOk posLen tb' → TabOk posStr tr' → Own b₀ h' (tabS tb' tr') → Kp (tabS tb tr) s.heap h' → R (.ok (.ret (.bool true))) ⟨h', gs.1, s.drawn, tk', s.os⟩) :
    codeAny (model Challenge.rw_ph0143_01.row.prog w) (mkA dp un gd fs) (.call (.ref 239) ⟨[.ref l], []⟩) R s := by
  have GG := GL.of G
  have X := G.X
  have T := G.T
  revert X; k_fill; intro X
  k_dflt ktr_enter
  rename Fr _ _ _ _ => F0
  rename News _ _ _ _ => N0
  rename (∀ b o, Heap.get? s.heap b = some o → _ → _) => hid
  rename (∀ b o, Heap.get? b₀ b = some o → Heap.get? _ b = some o) => bg
  rename_i gg LL h0 XX TT9 lts
  have hnS : ∀ p ∈ tabS tb tr, p.2.cls ≠ .type "list" ∧ p.2.cls ≠ .type "tuple" := by simp [tabS, tabObj]
  have hlg : Heap.IsList gg l vs.toArray := list_kp hl O (fun p hp => (hnS p hp).1) hid
  have sz : ∀ n : Nat, n ≤ 1000 → n ≤ sizeLine := fun n hn => by rw [sizeLine_eq]; omega
  have gl : ∀ {hh : Heap} {m' : Str → Option Value}, Fr gg LL hh m' → hh.Ns mainGlobals mg := fun F => GG.ns.at' fun o e => F.keep _ _ (bg _ _ e)
  have gbi : ∀ {hh : Heap} {m' : Str → Option Value}, Fr gg LL hh m' → hh.Ns builtinsNs mb := fun F => GG.nb.at' fun o e => F.keep _ _ (bg _ _ e)
  obtain ⟨oW, fW, hoW, hdW⟩ := GG.dwords
  have hwn : (wordsF (ns.take 6)).length ≤ 10 := by simp only [wordsF, List.length_append, List.length_map, List.length_cons, List.length_nil, List.length_take]; omega
  refine wpAny_execs_cons (x_pair rfl (x_call (gl F0) GG.words hdW (args_cons (wpAny_Name (wpAny_loadName_local rfl rfl F0.ns rfl (args_nil ?_))))))
  refine ⟨F0.keep _ _ (bg _ _ hoW), wpAny_call (words_spec l vs ns G gb (own_nil bg F0) (hlg.at fun o e => F0.keep _ _ e) hi (by ktr_units) (by ktr_units) hn fun lw wl g1 gs1 tk1 L1 T1 _ k1 => ?_)⟩
  have F1 := fr_kept F0 k1
  have N1 := news_kept N0 k1
  refine x_callb (gl F1) GG.sum0 (gbi F1) GG.sum (args_cons (x_slice (wpAny_Name (wpAny_loadName_local rfl rfl F1.ns rfl (wpAny_evalPart_none (wpAny_evalPart_some (wpAny_Constant_int ⟨l, vs.toArray, none, some (6 : Int), rfl, hlg.at fun o e => F1.keep _ _ e, sz _ (by have := hi.length; simp; omega), .none, .int _ _, fun D g2 k2 l2 => args_nil ?_⟩)))))))
  have F2 := fr_kept F1 k2
  have N2 := news_kept N1 k2
  rw [show (6 : Int) = ((6 : Nat) : Int) from rfl, slicePick_upto'] at l2
  refine x_sum rfl l2 (hi.take 6) fun g3 tk3 t3 k3 => ?_
  have F3 := fr_kept F2 k3
  have N3 := news_kept N2 k3
  have k13 : Kept g1 g3 := k2.trans k3
  refine ⟨_, F3.ns, fun g4 tk4 n4 k4 => ?_⟩
  obtain ⟨F4, N4⟩ := fr_assign F3 N3 n4 k4
  have ks4 : KS g1 g4 := k13.ks.trans (ks_store F3.ns fun b o hb e => k4 b o hb e)
  have L4 := ks_list L1 ks4
  have T4 := ks_tf T1 ks4
  clear F0 N0 F1 N1 F2 N2 F3 N3 L1 T1
  dsimp only
  refine wpAny_execs_cons (for_open ?_ (fun _ => rfl))
  refine Tuple_ (args_cons (Tuple_ (args_cons (wpAny_Constant_int (args_cons (wpAny_BinOp (wpAny_BinOp (wpAny_Constant_int (wpAny_Name (wpAny_loadName_local rfl rfl F4.ns rfl (P.add_int (wpAny_Constant_int (mod_int' (by decide) (args_cons (wpAny_Constant_str (args_nil ?_))))))))))))))))
  refine x_newtuple (sz _ (show 3 ≤ 1000 by decide)) fun A5 g5 k5 h5 => ?_
  have F5 := fr_kept F4 k5
  refine args_cons (Tuple_ (args_cons (wpAny_Constant_int (args_cons (wpAny_BinOp (wpAny_BinOp (wpAny_Constant_int (wpAny_Name (wpAny_loadName_local rfl rfl F5.ns rfl (P.add_int (wpAny_Constant_int (mod_int' (by decide) (args_cons (wpAny_Constant_str (args_nil ?_)))))))))))))))
  refine x_newtuple (sz _ (show 3 ≤ 1000 by decide)) fun A6 g6 k6 h6 => ?_
  have F6 := fr_kept F5 k6
  refine args_cons (Tuple_ (args_cons (wpAny_Constant_int (args_cons (wpAny_BinOp (wpAny_BinOp (wpAny_Constant_int (wpAny_Name (wpAny_loadName_local rfl rfl F6.ns rfl (P.add_int (wpAny_Constant_int (mod_int' (by decide) (args_cons (wpAny_Constant_str (args_nil ?_)))))))))))))))
  refine x_newtuple (sz _ (show 3 ≤ 1000 by decide)) fun A7 g7 k7 h7 => args_nil ?_
  refine x_newtuple (sz _ (show 3 ≤ 1000 by decide)) fun A8 g8 k8 h8 => ?_
  have k48 : Kept g4 g8 := ((k5.trans k6).trans k7).trans k8
  have F8 := fr_kept F4 k48
  have N8 := news_kept N4 k48
  have hTT : TT g8 #[.ref A5, .ref A6, .ref A7] (trips (ns.take 6).sum) := by
    refine ⟨rfl, fun j hj => ?_⟩
    match j, hj with
    | 0, _ => exact ⟨A5, _, _, _, rfl, _, k8 _ _ (k7 _ _ (k6 _ _ h5)), rfl, _, rfl⟩
    | 1, _ => exact ⟨A6, _, _, _, rfl, _, k8 _ _ (k7 _ _ h6), rfl, _, rfl⟩
    | 2, _ => exact ⟨A7, _, _, _, rfl, _, k8 _ _ h7, rfl, _, rfl⟩
  have hT8 : g8.IsTuple A8 #[.ref A5, .ref A6, .ref A7] := ⟨_, h8, rfl, _, rfl⟩
  refine wpAny_pyIter_tuple hT8 ?_
  dsimp only
  have fI : (g8.push ({ cls := .type "tuple_iterator", data := .fields #[.ref A8, .int 0 0] } : Obj)).get? g8.objs.size = some _ := Heap.get?_push_size _ rfl
  have N9 := News.push F8 N8 ({ cls := .type "tuple_iterator", data := .fields #[.ref A8, .int 0 0] } : Obj)
  have k9 : Kept g8 (g8.push ({ cls := .type "tuple_iterator", data := .fields #[.ref A8, .int 0 0] } : Obj)) := push_kept _ _
  have lt9 : ∀ p ∈ tabS tb tr, p.1 ≠ g8.objs.size := fun p hp => Nat.ne_of_lt (Heap.lt_size (N8 p hp).1)
  generalize (g8.push ({ cls := .type "tuple_iterator", data := .fields #[.ref A8, .int 0 0] } : Obj)) = g9 at fI N9 k9 ⊢
  have F9 := fr_kept F8 k9
  refine for_tup (g := gg) (its := #[.ref A5, .ref A6, .ref A7]) (t := A8) (LawInv lw A8 wl #[.ref A5, .ref A6, .ref A7] (wordsF (ns.take 6)) (trips (ns.take 6).sum)) (fun j m news h h' k J => ?_) rfl (fun j m news h J => J.2.2.2.2.1) ?_ s ?_ 3 0 _ (tabS tb tr) _ g9 _ _ rfl (Nat.zero_le _) ⟨⟨tb, tr, rfl, htb, htr⟩, rfl, ks_list L4 (k48.trans k9).ks, ks_tf T4 (k48.trans k9).ks, ks_tup hT8 k9.ks, ks_tt hTT k9.ks⟩ F9 N9 ⟨rfl, rfl⟩ lt9
  · obtain ⟨a, b, c, d, e, f⟩ := J
    exact ⟨a, b, ks_list c k, ks_tf d k, ks_tup e k, ks_tt f k⟩
  · intro j m news o h5 gs tk v s₀ hv J F N S hne
    have J5 := J
    obtain ⟨⟨tb5, tr5, rfl, b1, b2⟩, e1, L5, T5, _, hTT5⟩ := J
    have hj : j < (trips (ns.take 6).sum).length := by have := (Array.getElem?_eq_some_iff.mp hv).1; exact this
    obtain ⟨Ta, t1, t2, t3', hTa, hTup⟩ := hTT5.2 j hj
    rw [hTa] at hv
    cases hv
    have TL := hT _ (List.getElem_mem hj)
    generalize (trips (ns.take 6).sum)[j] = trip at TL hTup
    obtain ⟨head, width, e⟩ := trip
    dsimp only at TL hTup
    clear hTa hTT hTT5 hT8 F4 N4 F5 F6 F8 N8 F9 N9
    refine x_three rfl hTup rfl rfl rfl rfl F.ns fun g6 tk6 n6 k6' => ?_
    obtain ⟨F6, N6⟩ := fr_assign F N n6 k6'
    have ks6 : KS h5 g6 := ks_store F.ns fun b o hb e => k6' b o hb e
    have L6 := ks_list L5 ks6
    have T6 := ks_tf T5 ks6
    obtain ⟨oR, fR, hoR, hdR⟩ := GG.drows
    obtain ⟨oP, fP, hoP, hdP⟩ := GG.dpage
    obtain ⟨oD, fD, hoD, hdD⟩ := GG.ddoc
    obtain ⟨oQ, fQ, hoQ, hdQ⟩ := GG.drepl
    obtain ⟨oE, fE, hoE, hdE⟩ := GG.dpeel
    dsimp only
    refine wpAny_execs_cons (x_pair rfl (x_call (gl F6) GG.rows hdR ?_))
    refine args_cons (wpAny_Name (wpAny_loadName_local rfl rfl F6.ns e1 (args_cons (wpAny_Name (wpAny_loadName_local rfl rfl F6.ns rfl (args_cons (wpAny_Name (wpAny_loadName_local rfl rfl F6.ns rfl (args_nil ?_)))))))))
    refine ⟨F6.keep _ _ (bg _ _ hoR), wpAny_call (rows_spec lw wl (wordsF (ns.take 6)) head width _ _ G gs.2 (own_nil bg F6) L6 T6 (by ktr_units) (by ktr_units) hg hdot (by omega) TL.h1 TL.h2 TL.w1 TL.w2 fun r rits g7 gs7 tk7 L7 R7 _ k7 => ?_)⟩
    have F7 := fr_kept F6 k7
    have N7 := news_kept N6 k7
    refine x_call (gl F7) GG.page hdP ?_
    refine args_cons (wpAny_Name (wpAny_loadName_local rfl rfl F7.ns e1 (args_cons (wpAny_Name (wpAny_loadName_local rfl rfl F7.ns rfl (args_cons (wpAny_Name (wpAny_loadName_local rfl rfl F7.ns rfl (args_cons (wpAny_Name (wpAny_loadName_local rfl rfl F7.ns rfl (args_nil ?_))))))))))))
    have hIc : ∀ q ∈ [(g8.objs.size, o)], q.2.cls ≠ .none := fun q hq => by rw [List.mem_singleton.mp hq]; show o.cls ≠ _; rw [S.cls]; decide
    have N7' : News gg LL g7 (tabS tb5 tr5 ++ [(g8.objs.size, o)]) := news_sub N7 fun p hp => by
      simp only [tabS, List.mem_append, List.mem_cons, List.not_mem_nil, or_false] at hp ⊢
      rcases hp with (h | h) | h <;> simp [h]
    refine ⟨F7.keep _ _ (bg _ _ hoP), use_page G gs7.2 bg F7 N7' hIc (ks_list L6 k7.ks) (ks_tf T6 k7.ks) b1 b2 (by ktr_units) (by ktr_units) TL.h1 (by have := TL.h2; omega) hg (by omega) (.inl (by simp [wordsF])) TL.e2 fun tb8 tr8 t8 g8' gs8 tk8 c1 c2 F8 N8 ks8 => ?_⟩
    refine ⟨_, F8.ns, fun g9' tk9 n9 k9' => ?_⟩
    obtain ⟨F9, N9⟩ := fr_assign F8 N8 n9 k9'
    have ks9 : KS g8' g9' := ks_store F8.ns fun b o hb e => k9' b o hb e
    have L9 := ks_list L7 (ks8.trans ks9)
    have R9 := ks_rf R7 (ks8.trans ks9)
    have ksA : KS h5 g9' := ((ks6.trans k7.ks).trans ks8).trans ks9
    clear F6 N6 F7 N7 N7' F8 N8 L7 R7 L6 T6 n6 n9
    dsimp only
    obtain ⟨fl, frl⟩ := rows_flat head width (wordsF (ns.take 6))
    have ffl := flat_ne (rowsOf (rowsF head width (wordsF (ns.take 6))))
    rw [fl] at ffl
    have TLp := TL.page
    have TLb := TL.bare
    have TLl := TL.hlen
    have TLA := TL.hA
    have TLB := TL.hB
    generalize rowsOf (rowsF head width (wordsF (ns.take 6))) = rows at TLp TLb TLl TLA TLB R9 fl frl ffl
    have frl2 : (rows.filter ne).length ≤ 20 := Nat.le_trans (List.length_filter_le _ _) (by omega)
    have hgR : ∀ row ∈ rows, ∀ p ∈ row, GoodP p := fun row hr p hp => hg p (by rw [← fl]; exact List.mem_flatten.mpr ⟨row, hr, hp⟩)
    have hnR : ∀ row ∈ rows, row.length ≤ 80 := fun row hr => by
      have : row.length ≤ rows.flatten.length := (List.sublist_flatten_of_mem hr).length_le
      rw [fl] at this
      omega
    have hpl : (pageF width head e (wordsF (ns.take 6))).length ≤ 9000 := TLl 0 (Nat.zero_le _)
    have hel := TL.e2
    have z1 : (Str.ofString "\n").length = 1 := by decide
    refine wpAny_execs_cons (wpAny_If (wpAny_isTrue_Compare1 (wpAny_Name (wpAny_loadName_local rfl rfl F9.ns rfl (MethodCall_ (wpAny_Name (wpAny_loadName_local rfl rfl F9.ns rfl (GM.join (callWith_method1 (args_cons ?_))))))))))
    refine comp_texts G (by ktr_units) (by ktr_units) hgR hnR (by omega) (wpAny_Name (wpAny_loadName_local rfl rfl F9.ns rfl ⟨r, rits, rfl, gs8.2, L9, R9, fun b o e => F9.keep _ _ (bg _ _ e), gl F9, fun D g10 gs10 tk10 ys J kA d => args_nil ?_⟩))
    obtain ⟨l2, e2, ht⟩ := strsAre_values J
    subst e2
    have F10 := fr_kept F9 kA
    have N10 := news_kept N9 kA
    have L10 := ks_list L9 kA.ks
    have R10 := ks_rf R9 kA.ks
    have ksB := ksA.trans kA.ks
    clear F9 N9 L9 R9
    refine SC.join (l := l2) ⟨_, d, rfl, _, rfl⟩ ht (rows_ok (by rw [fl]; exact hg) (by rw [fl]; omega) (by omega) hel) fun t11 k11 => ?_
    refine P.ne_str (wpAny_truthy_bool ?_)
    rw [TLp, bne_self_eq_false, if_neg (by decide)]
    refine wpAny_execs_nil ?_
    dsimp only
    have hbl : (Txt.join (Str.ofString "\n") ((rows.filter ne).map txt)).length ≤ sizeLine := by
      have := texts_le (rows := rows.filter ne) (e := Str.ofString "\n") (by rw [ffl]; exact hg) (by rw [ffl]; omega) (by omega) (by omega)
      rw [sizeLine_eq]; omega
    refine wpAny_execs_cons (wpAny_Assign_Name (MethodCall_ (MethodCall_ (Calls.Constant_str (GM.join (callWith_method1 (args_cons ?_)))))))
    refine comp_texts_if G (by ktr_units) (by ktr_units) hgR hnR (by omega) (wpAny_Name (wpAny_loadName_local rfl rfl F10.ns rfl ⟨r, rits, rfl, gs10.2, L10, R10, fun b o e => F10.keep _ _ (bg _ _ e), gl F10, fun D g12 gs12 tk12 ys J kB d => args_nil ?_⟩))
    obtain ⟨l3, e3, ht3⟩ := strsAre_values J
    subst e3
    have F12 := fr_kept F10 kB
    have N12 := news_kept N10 kB
    have L12 := ks_list L10 kB.ks
    have R12 := ks_rf R10 kB.ks
    have ksC := ksB.trans kB.ks
    clear F10 N10 L10 R10
    refine SC.join (l := l3) ⟨_, d, rfl, _, rfl⟩ ht3 (rows_ok (by rw [ffl]; exact hg) (by rw [ffl]; omega) (by omega) (by omega)) fun t13 k13 => ?_
    refine GM.strip (callWith_method1 (args_cons (wpAny_Constant_str (args_nil (SC.stripChars (fun t15 tk15 => ?_) hbl)))))
    refine wpAny_storeName_local rfl F12.ns (fun g16 n16 k16 => ?_) rfl
    obtain ⟨F16, N16⟩ := fr_assign F12 N12 n16 k16.extBut
    have ks16 := ks_store F12.ns k16.extBut
    have L16 := ks_list L12 ks16
    have R16 := ks_rf R12 ks16
    have ksD := ksC.trans ks16
    clear F12 N12 L12 R12 n16
    dsimp only
    refine wpAny_execs_cons (wpAny_If (wpAny_isTrue_Compare1 (x_call (gl F16) GG.doc hdD (args_cons (x_call (gl F16) GG.repl hdQ ?_)))))
    refine args_cons (wpAny_BinOp (wpAny_Name (wpAny_loadName_local rfl rfl F16.ns rfl (wpAny_Name (wpAny_loadName_local rfl rfl F16.ns rfl (add_str (fun t17 tk17 => ?_) (by rw [sizeLine_eq]; omega)))))))
    refine args_cons (wpAny_Name (wpAny_loadName_local rfl rfl F16.ns rfl (args_cons (wpAny_Constant_str (args_nil ?_)))))
    have hpe : (pageF width head e (wordsF (ns.take 6)) ++ e).length ≤ 9010 := by rw [Str.length_append]; omega
    have hrl := repl_le (z := Str.ofString "\n") (y := e) (x := pageF width head e (wordsF (ns.take 6)) ++ e) (by rw [z1]; exact TL.e1)
    refine ⟨F16.keep _ _ (bg _ _ hoQ), use_replace G (own_nil bg F16) (by ktr_units) (by ktr_units) (by omega) TL.e1 hel (by rw [z1]; exact TL.e1) fun t18 g18 tk18 k18 => args_nil ?_⟩
    have F18 := fr_kept F16 k18
    refine ⟨F18.keep _ _ (bg _ _ hoD), use_doc G (own_nil bg F18) (by ktr_units) (by ktr_units) (by omega) fun a b tp t t' g19 tk19 d9 hget k19 => ?_⟩
    obtain ⟨ea, eb⟩ := TLb a b d9
    subst ea eb
    have F19 := fr_kept F18 k19
    refine Tuple_ (args_cons (wpAny_Constant_str (args_cons (wpAny_Name (wpAny_loadName_local rfl rfl F19.ns rfl (args_nil ?_))))))
    refine x_newtuple (sz _ (show 2 ≤ 1000 by decide)) fun D20 g20 k20 h20 => ?_
    refine ne_pairs (k20 _ _ hget) h20 (by ktr_units) (wpAny_truthy_bool ?_)
    rw [if_neg (by decide)]
    have F20 := fr_kept F19 k20
    have kD : Kept g16 g20 := (k18.trans k19).trans k20
    have N20 := news_kept N16 kD
    have L20 := ks_list L16 kD.ks
    have R20 := ks_rf R16 kD.ks
    have ksE := ksD.trans kD.ks
    clear F16 N16 L16 R16 F18 F19
    refine wpAny_execs_nil ?_
    dsimp only
    refine wpAny_execs_cons (wpAny_If (isTrue_not (isTrue_plain (x_call (gl F20) GG.peel hdE ?_))))
    refine args_cons (wpAny_Name (wpAny_loadName_local rfl rfl F20.ns rfl (args_cons ?_)))
    refine comp_rows_if hnR (by omega) (wpAny_Name (wpAny_loadName_local rfl rfl F20.ns rfl ⟨r, rits, rfl, gs12.2, L20, R20, fun D g21 gs21 tk21 ys J kE d => ?_⟩))
    have F21 := fr_kept F20 kE
    have N21 := news_kept N20 kE
    have R21 := ks_rf J kE.ks
    have ksF := ksE.trans kE.ks
    clear F20 N20 L20 R20 J
    refine args_cons (wpAny_Name (wpAny_loadName_local rfl rfl F21.ns rfl (args_cons (wpAny_Name (wpAny_loadName_local rfl rfl F21.ns rfl (args_nil ?_))))))
    refine ⟨F21.keep _ _ (bg _ _ hoE), use_peel G gs21.2 bg F21 N21 hIc c1 c2 ⟨_, d, rfl, _, rfl⟩ R21 (by ktr_units) (by ktr_units) (by rw [ffl]; exact hg) (by rw [ffl]; omega) (by omega) TL.e1 hel TLl TLA TLB fun tb22 tr22 g22 gs22 tk22 d1 d2 F22 N22 ks22 => ?_⟩
    refine wpAny_truthy_bool ?_
    rw [if_neg (by decide)]
    refine wpAny_execs_nil (wpAny_execs_nil ?_)
    have ksZ : KS h5 g22 := ksF.trans ks22
    refine ⟨_, tabS tb22 tr22, o, g22, _, _, rfl, ?_, F22, news_sub N22 fun p hp => ?_, S, fun p hp => ?_⟩
    · obtain ⟨x1, x2, x3, x4, x5, x6⟩ := J5
      exact ⟨⟨tb22, tr22, rfl, d1, d2⟩, e1, ks_list L5 ksZ, ks_tf T5 ksZ, ks_tup x5 ksZ, ks_tt x6 ksZ⟩
    · simp only [tabS, List.mem_append, List.mem_cons, List.not_mem_nil, or_false] at hp ⊢
      rcases hp with h | h | h <;> simp [h]
    · simp only [tabS, List.mem_cons, List.not_mem_nil, or_false] at hp
      rcases hp with rfl | rfl
      · exact hne (161, tabObj tb5) (.head _)
      · exact hne (168, tabObj tr5) (.tail _ (.head _))
  · intro m news h9 gs tk J F N
    obtain ⟨⟨tb', tr', rfl, b1, b2⟩, _⟩ := J
    refine wpAny_execs_nil ?_
    dsimp only
    refine wpAny_execs_cons (wpAny_Return_some (wpAny_Constant_bool ?_))
    exact h tb' tr' _ _ _ b1 b2 (own_of bg F N) (kp_of hid F)
end
end
section
theorem clear_K3 : True := by
  k_with_none
  w_top off
  trivial
noncomputable def lay (width : Int) : Row → Int → Row → List Row
  | [], _, last => [last]
  | p :: qs, room, last => if lenP (last ++ [p]) ≤ room then lay width qs room (last ++ [p]) else last :: lay width qs width [p]
theorem lay_fit {width room : Int} {last qs : Row} {p : Str × Str} (h : lenP (last ++ [p]) ≤ room) : lay width (p :: qs) room last = lay width qs room (last ++ [p]) := if_pos h
theorem lay_no {width room : Int} {last qs : Row} {p : Str × Str} (h : ¬ lenP (last ++ [p]) ≤ room) : lay width (p :: qs) room last = last :: lay width qs width [p] := if_neg h
theorem rows1_fit {head width room : Int} {front : List Row} {last : Row} {p : Str × Str} (h : lenP (last ++ [p]) ≤ room ∨ (head = 0 ∧ last = [])) : rowsF1 head width (front, last, room) p = (front, last ++ [p], room) := if_pos h
theorem rows1_no {head width room : Int} {front : List Row} {last : Row} {p : Str × Str} (h : ¬ (lenP (last ++ [p]) ≤ room ∨ (head = 0 ∧ last = []))) : rowsF1 head width (front, last, room) p = (front ++ [last], [p], width) := if_neg h
theorem chunk_fit {width init : Int} {yl : List Str} {last : Row} {p : Str × Str} (h : init + lenP (last ++ [p]) ≤ width) : chunkF width (yl, last, init) p = (yl, last ++ [p], init) := if_pos h
theorem chunk_no {width init : Int} {yl : List Str} {last : Row} {p : Str × Str} (h : ¬ init + lenP (last ++ [p]) ≤ width) (h2 : last ≠ []) : chunkF width (yl, last, init) p = (yl ++ [txt last], [p], 0) := (if_neg h).trans (if_neg h2)
theorem chunk_hd {width init : Int} {yl : List Str} {p : Str × Str} (h : ¬ init + lenP ([] ++ [p]) ≤ width) (h2 : init > 0) : chunkF width (yl, [], init) p = (yl ++ [Str.ofString ""], [p], 0) := (if_neg h).trans ((if_pos rfl).trans (if_pos h2))
theorem chunk_al {width init : Int} {yl : List Str} {p : Str × Str} (h : ¬ init + lenP ([] ++ [p]) ≤ width) (h2 : ¬ init > 0) : chunkF width (yl, [], init) p = (yl, [p], init) := (if_neg h).trans ((if_pos rfl).trans (if_neg h2))
theorem lay_flat (width : Int) : ∀ (qs : Row) (room : Int) (last : Row), (lay width qs room last).flatten = last ++ qs
  | [], _, last => by simp [lay]
  | p :: qs, room, last => by
    by_cases hc : lenP (last ++ [p]) ≤ room
    · rw [lay_fit hc, lay_flat width qs, List.append_assoc]; rfl
    · rw [lay_no hc, List.flatten_cons, lay_flat width qs]; rfl
theorem lay_ne (width : Int) : ∀ (qs : Row) (room : Int) (last : Row), last ≠ [] → ∀ r ∈ lay width qs room last, r ≠ []
  | [], _, last, h, r, hr => by
    rw [List.mem_singleton.mp hr]; exact h
  | p :: qs, room, last, h, r, hr => by
    by_cases hc : lenP (last ++ [p]) ≤ room
    · rw [lay_fit hc] at hr
      exact lay_ne width qs room _ (by simp) r hr
    · rw [lay_no hc] at hr
      rcases List.mem_cons.mp hr with rfl | hr
      · exact h
      · exact lay_ne width qs width _ (by simp) r hr
theorem lay_pos (width : Int) : ∀ (qs : Row) (room : Int) (last : Row), 1 ≤ (lay width qs room last).length
  | [], _, _ => Nat.le_refl _
  | p :: qs, room, last => by
    by_cases hc : lenP (last ++ [p]) ≤ room
    · rw [lay_fit hc]; exact lay_pos width qs room _
    · rw [lay_no hc]; simp
theorem lay_drop (width : Int) : ∀ (qs : Row) (room : Int) (last : Row) (k : Nat), 1 ≤ k → k < (lay width qs room last).length → ∃ p rest, (lay width qs room last).drop k = lay width rest width [p]
  | [], _, _, k, h1, h2 => by
    have h2 : k < 1 := h2
    omega
  | p :: qs, room, last, k, h1, h2 => by
    by_cases hc : lenP (last ++ [p]) ≤ room
    · rw [lay_fit hc] at h2 ⊢
      exact lay_drop width qs room _ k h1 h2
    · rw [lay_no hc] at h2 ⊢
      obtain ⟨k, rfl⟩ : ∃ j, k = j + 1 := ⟨k - 1, by omega⟩
      rw [List.drop_succ_cons]
      rw [List.length_cons] at h2
      by_cases hk : k = 0
      · subst hk
        exact ⟨p, qs, rfl⟩
      · exact lay_drop width qs width _ k (by omega) (by omega)
theorem lay_two (width : Int) : ∀ (qs : Row) (room : Int) (last : Row), qs ≠ [] → lenP (last ++ qs) > room → 2 ≤ (lay width qs room last).length
  | [], _, _, h, _ => absurd rfl h
  | p :: qs, room, last, _, hb => by
    by_cases hc : lenP (last ++ [p]) ≤ room
    · rw [lay_fit hc]
      by_cases hq : qs = []
      · subst hq
        exfalso
        omega
      · exact lay_two width qs room _ hq (by rw [List.append_assoc]; exact hb)
    · rw [lay_no hc, List.length_cons]
      have := lay_pos width qs width [p]
      omega
theorem rows_lay (head width : Int) : ∀ (qs : Row) (front : List Row) (last : Row) (room : Int), last ≠ [] → rowsOf (qs.foldl (rowsF1 head width) (front, last, room)) = front ++ lay width qs room last
  | [], front, last, room, _ => rfl
  | p :: qs, front, last, room, h => by
    rw [List.foldl_cons]
    by_cases hc : lenP (last ++ [p]) ≤ room
    · rw [rows1_fit (.inl hc), lay_fit hc]
      exact rows_lay head width qs front _ room (by simp)
    · rw [rows1_no (fun h1 => h1.elim hc fun h1 => h h1.2), lay_no hc, rows_lay head width qs _ _ _ (by simp), List.append_assoc]
      rfl
theorem lines_lay (width : Int) : ∀ (qs : Row) (lines : List Str) (last : Row) (init : Int), last ≠ [] →
    linesF (qs.foldl (chunkF width) (lines, last, init)).1 (qs.foldl (chunkF width) (lines, last, init)).2.1 = lines ++ (lay width qs (width - init) last).map txt
  | [], lines, last, init, h => if_neg h
  | p :: qs, lines, last, init, h => by
    rw [List.foldl_cons]
    by_cases hc : init + lenP (last ++ [p]) ≤ width
    · rw [chunk_fit hc, lay_fit (show lenP (last ++ [p]) ≤ width - init by omega)]
      exact lines_lay width qs lines _ init (by simp)
    · rw [chunk_no hc h, lay_no (show ¬ lenP (last ++ [p]) ≤ width - init by omega)]
      rw [lines_lay width qs _ _ _ (by simp), List.append_assoc, show width - 0 = width by omega]
      rfl
theorem txt_nil : txt [] = Str.ofString "" := by decide
theorem both_lay (head width : Int) (hh : 0 ≤ head) (p : Str × Str) (qs : Row) : ∃ (room0 : Int) (pre : List Row), (pre = [] ∨ pre = [[]]) ∧ room0 ≤ width ∧ rowsOf (rowsF head width (p :: qs)) = pre ++ lay width qs room0 [p] ∧
    linesF (foldF width head (p :: qs)).1 (foldF width head (p :: qs)).2.1 = (pre ++ lay width qs room0 [p]).map txt ∧ (head = 0 → pre = [] ∧ room0 = width) := by
  unfold rowsF foldF
  rw [List.foldl_cons, List.foldl_cons]
  by_cases hc : head + lenP ([] ++ [p]) ≤ width
  · refine ⟨width - head, [], .inl rfl, by omega, ?_, ?_, fun h => ⟨rfl, by omega⟩⟩
    · rw [rows1_fit (.inl (show lenP ([] ++ [p]) ≤ width - head by omega))]
      exact rows_lay head width qs _ _ _ (by simp)
    · rw [chunk_fit hc]
      exact lines_lay width qs _ _ _ (by simp)
  · by_cases hz : head = 0
    · subst hz
      refine ⟨width, [], .inl rfl, Int.le_refl _, ?_, ?_, fun _ => ⟨rfl, rfl⟩⟩
      · rw [rows1_fit (.inr ⟨rfl, rfl⟩), show width - 0 = width by omega]
        exact rows_lay 0 width qs _ _ _ (by simp)
      · rw [chunk_al hc (by decide)]
        have := lines_lay width qs [] [p] 0 (by simp)
        rw [show width - 0 = width by omega] at this
        exact this
    · refine ⟨width, [[]], .inr rfl, Int.le_refl _, ?_, ?_, fun h => absurd h hz⟩
      · rw [rows1_no (fun h => h.elim (fun h => by omega) fun h => hz h.1)]
        exact rows_lay head width qs _ _ _ (by simp)
      · rw [chunk_hd hc (show head > 0 by omega)]
        have := lines_lay width qs ([] ++ [Str.ofString ""]) [p] 0 (by simp)
        rw [show width - 0 = width by omega] at this
        refine this.trans ?_
        rw [List.map_append, List.map_cons, List.map_nil, txt_nil]
        rfl
end
section
theorem clear_K4 : True := by
  k_with_none
  w_top off
  trivial
theorem join_txt (rows : List Row) : Txt.join (Str.ofString "") (rows.map txt) = txt rows.flatten := by
  rw [ofS_nil, join_nil_cat]
  refine str_of ?_
  rw [txt_list]
  unfold cat
  induction rows with
  | nil => rfl
  | cons r rows ih =>
    rw [List.map_cons, List.flatMap_cons, List.flatten_cons]
    have e : flatR (r ++ rows.flatten) = flatR r ++ flatR rows.flatten := by simp [flatR]
    rw [e, ← ih, ← txt_list]
theorem nil_rows (pk : List Row) (h : pk = [] ∨ pk = [[]]) (D : List Row) : (pk ++ D).flatten = D.flatten := by
  rcases h with rfl | rfl <;> simp
theorem pre_free {pk D : List Row} (h : pk = [] ∨ pk = [[]]) (hD : ∀ r ∈ D, ∀ p ∈ r, Wd p) : ∀ s ∈ (pk ++ D).map txt, 10 ∉ s.cps.toList := by
  refine map_free fun r hr p hp => ?_
  rcases List.mem_append.mp hr with hr | hr
  · rcases h with rfl | rfl
    · exact absurd hr List.not_mem_nil
    · rw [List.mem_singleton.mp hr] at hp
      exact absurd hp List.not_mem_nil
  · exact hD r hr p hp
theorem pre_join {y : Str} {pk D : List Row} (h : pk = [] ∨ pk = [[]]) (hD : D ≠ []) : ∃ A : List Nat, (A = [] ∨ A = y.cps.toList) ∧ (Str.join y ((pk ++ D).map txt)).cps.toList = A ++ (Str.join y (D.map txt)).cps.toList := by
  rcases h with rfl | rfl
  · exact ⟨[], .inl rfl, rfl⟩
  · refine ⟨y.cps.toList, .inr rfl, ?_⟩
    rw [List.map_append, List.map_cons, List.map_nil, txt_nil, ofS_nil]
    show (Str.join y (⟨#[]⟩ :: D.map txt)).cps.toList = _
    rw [join_ne y _ (by simpa using hD)]
    simp
theorem sp_list : (Str.ofString " ").cps = #[32] := by decide
theorem chars_row {y : Str} {r : Row} {T : List Row} (hT : Rws (r :: T)) : Txt.stripChars (Str.join y (txt r :: T.map txt)) (Str.ofString " ") = Str.join y (stripR r :: T.map txt) := by
  unfold Txt.stripChars
  refine strip_rows (A := []) (C := []) hT (fun c h1 h2 => ?_) ?_ (fun _ h => absurd h List.not_mem_nil) (fun _ h => absurd h List.not_mem_nil) (by simp)
  · rw [sp_list]; simp; omega
  · rw [sp_list]; simp
theorem doc_rest {e ws : Str} (S : Sep e ws) {pk : List Row} (hp : pk = [] ∨ pk = [[]]) {r : Row} {T : List Row} (hT : Rws (r :: T)) {a b : Str} (d : docR (Str.join e ((pk ++ (r :: T)).map txt) ++ e) a b) :
    a = Txt.stripChars (txt r) (Str.ofString " ") ∧ b = Str.join e (T.map txt) := by
  obtain ⟨A, hA, hj⟩ := pre_join (y := e) hp (show r :: T ≠ [] by simp)
  have hs : Txt.strip (Str.join e ((pk ++ (r :: T)).map txt) ++ e) = Str.join e (stripR r :: T.map txt) := by
    unfold Txt.strip
    refine strip_rows (A := A) (C := e.cps.toList) hT (fun c h1 h2 => letter_ns h1 h2) sp32 (fun c hc => ?_) S.sp ?_
    · rcases hA with rfl | rfl
      · exact absurd hc List.not_mem_nil
      · exact S.sp c hc
    · rw [Str.cps_append, Array.toList_append, hj, List.append_assoc]
      rfl
  have ha : Txt.stripChars (txt r) (Str.ofString " ") = stripR r := chars_row (y := e) (r := r) (T := []) (fun q hq => hT q (by rw [List.mem_singleton.mp hq]; exact .head _))
  unfold docR at d
  rw [hs] at d
  rw [ha]
  cases T with
  | nil =>
    have hl : Txt.split (Str.join e [stripR r]) nl = [stripR r] := split_nl (L := [stripR r]) (by simp) fun p hp => by rw [List.mem_singleton.mp hp]; exact strip_free (hT r (.head _)).2
    have hl : Txt.split (Str.join e (stripR r :: List.map txt [])) (Str.ofString "\n") = [stripR r] := hl
    rw [hl] at d
    rcases d with ⟨_, d2, d3⟩ | ⟨d1, _⟩ | ⟨d1, _⟩ | d1
    · refine ⟨(Option.some.inj d2).symm, d3.trans ?_⟩
      show Str.ofString "" = Str.empty
      decide
    · simp at d1
    · simp at d1
    · simp at d1
  | cons r2 T =>
    have hl : Txt.split (Str.join e (stripR r :: (r2 :: T).map txt)) (Str.ofString "\n") = stripR r :: ws :: Txt.split (Str.join e ((r2 :: T).map txt)) nl := lines_rows S hT (by simp)
    rw [hl] at d
    rcases d with ⟨d1, _⟩ | ⟨_, ⟨y, _, _⟩, d2, d3⟩ | ⟨_, ⟨y, d2, d3⟩, _⟩ | d1
    · simp at d1
    · refine ⟨(Option.some.inj d2).symm, d3.trans ?_⟩
      rw [tjoin']
      exact StrLaws.join_split _ _
    · exfalso
      have hy : ws = y := Option.some.inj d2
      rw [← hy] at d3
      refine d3 (rstrip_white fun c hc => ?_)
      rcases S.ws c hc with rfl | rfl
      · exact sp32
      · exact sp9
    · simp at d1
theorem join_snoc (y : Str) : ∀ (L : List Str), L ≠ [] → (Str.join y (L ++ [Str.ofString ""])).cps.toList = (Str.join y L).cps.toList ++ y.cps.toList
  | [], h => absurd rfl h
  | [a], _ => by
    show (Str.join y (a :: [Str.ofString ""])).cps.toList = _
    rw [join_ne y a (by simp)]
    show a.cps.toList ++ (y.cps.toList ++ (Str.ofString "").cps.toList) = a.cps.toList ++ y.cps.toList
    rw [ofS_nil]; simp
  | a :: b :: L, _ => by
    show (Str.join y (a :: (b :: L ++ [Str.ofString ""]))).cps.toList = _
    rw [join_ne y a (by simp), join_snoc y (b :: L) (by simp), join_cons2]
    simp
theorem last_row {r : Row} (hr : r ≠ []) (h : ∀ p ∈ r, Wd p) : (Txt.rstrip (txt r)).length ≠ 0 := by
  rw [rstrip_id fun b hb => by
    rw [txt_list] at hb
    obtain ⟨h1, h2⟩ := flat_last h b hb
    exact letter_ns h1 h2]
  intro h0
  have h1 : (txt r).cps.toList = [] := by
    rw [← List.length_eq_zero_iff, Array.length_toList]; exact h0
  rw [txt_body hr] at h1
  exact (body_head hr h).1 (List.append_eq_nil_iff.mp h1).2
theorem doc_bare {e ws : Str} (S : Sep e ws) {pk : List Row} (hp : pk = [] ∨ pk = [[]]) {r r2 : Row} {T : List Row} (hT : Rws (r :: r2 :: T)) {a b : Str}
    (d : docR (Txt.join nl (Txt.split (Str.join e ((pk ++ (r :: r2 :: T)).map txt) ++ e) e)) a b) : a = Str.ofString "" ∧ b = Txt.stripChars (Txt.join nl ((r :: r2 :: T).map txt)) (Str.ofString " ") := by
  have hne : (pk ++ (r :: r2 :: T)).map txt ≠ [] := by simp
  have hsp : Txt.split (Str.join e ((pk ++ (r :: r2 :: T)).map txt) ++ e) e = (pk ++ (r :: r2 :: T)).map txt ++ [Str.ofString ""] := by
    have e1 : Str.join e ((pk ++ (r :: r2 :: T)).map txt) ++ e = Str.join e ((pk ++ (r :: r2 :: T)).map txt ++ [Str.ofString ""]) := by
      refine str_of ?_
      rw [join_snoc e _ hne, Str.cps_append, Array.toList_append]
    rw [e1]
    refine split_sep S (by simp) fun p hp' => ?_
    rcases List.mem_append.mp hp' with hp' | hp'
    · exact pre_free hp (fun q hq => (hT q hq).2) p hp'
    · rw [List.mem_singleton.mp hp', ofS_nil]; simp
  obtain ⟨A, hA, hj⟩ := pre_join (y := nl) hp (show r :: r2 :: T ≠ [] by simp)
  have hs : Txt.strip (Txt.join nl (Txt.split (Str.join e ((pk ++ (r :: r2 :: T)).map txt) ++ e) e)) = Str.join nl (stripR r :: (r2 :: T).map txt) := by
    rw [hsp, tjoin']
    unfold Txt.strip
    refine strip_rows (A := A) (C := [10]) hT (fun c h1 h2 => letter_ns h1 h2) sp32 (fun c hc => ?_) (fun c hc => by rw [List.mem_singleton.mp hc]; exact sp10) ?_
    · rcases hA with rfl | rfl
      · exact absurd hc List.not_mem_nil
      · rw [nl_list] at hc
        rw [List.mem_singleton.mp hc]; exact sp10
    · rw [join_snoc nl _ hne, hj, nl_list, List.append_assoc]
      rfl
  unfold docR at d
  rw [hs] at d
  have hl : Txt.split (Str.join nl (stripR r :: (r2 :: T).map txt)) (Str.ofString "\n") = stripR r :: txt r2 :: T.map txt := split_nl (L := stripR r :: (r2 :: T).map txt) (by simp) fun p hp' => by
    rcases List.mem_cons.mp hp' with rfl | hp'
    · exact strip_free (hT r (.head _)).2
    · exact map_free (fun q hq => (hT q (.tail _ hq)).2) p hp'
  rw [hl] at d
  have hb : Txt.stripChars (Txt.join nl ((r :: r2 :: T).map txt)) (Str.ofString " ") = Str.join nl (stripR r :: (r2 :: T).map txt) := by
    rw [tjoin']
    exact chars_row (y := nl) hT
  rw [hb]
  rcases d with ⟨d1, _⟩ | ⟨_, ⟨y, d2, d3⟩, _⟩ | ⟨_, _, d2, d3⟩ | d1
  · simp at d1
  · exfalso
    have hy : txt r2 = y := Option.some.inj d2
    rw [← hy] at d3
    obtain ⟨h1, h2⟩ := hT r2 (.tail _ (.head _))
    exact last_row h1 h2 d3
  · refine ⟨d2, d3.trans ?_⟩
    rw [tjoin']
    rfl
  · simp at d1
end
section
theorem clear_K5 : True := by
  k_with_none
  w_top off
  trivial
theorem tale_of {head width : Int} {e : Str} {ps : Row} {T : List Row} (hf : (rowsOf (rowsF head width ps)).filter ne = T) (h1 : 0 ≤ head) (h2 : head ≤ 40) (w1 : 0 ≤ width) (w2 : width ≤ 40) (e1 : 1 ≤ e.length) (e2 : e.length ≤ 10)
    (page : pageF width head e ps = Txt.join e ((rowsOf (rowsF head width ps)).map txt))
    (bare : ∀ a b, docR (Txt.join (Str.ofString "\n") (Txt.split (pageF width head e ps ++ e) e)) a b → a = Str.ofString "" ∧ b = Txt.stripChars (Txt.join (Str.ofString "\n") (T.map txt)) (Str.ofString " "))
    (hlen : ∀ k, k ≤ T.length → (restF (pageF width head e ps) width e T k).length ≤ 9000)
    (hA : ∀ k, k < T.length → Txt.join (Str.ofString "") (Txt.split (restF (pageF width head e ps) width e T k) e) = txt (T.drop k).flatten)
    (hB : ∀ k (hk : k < T.length), ∀ a b, docR (restF (pageF width head e ps) width e T k ++ e) a b → a = Txt.stripChars (txt T[k]) (Str.ofString " ") ∧ b = restF (pageF width head e ps) width e T (k + 1)) :
    Tale head width e ps := by
  subst hf
  exact ⟨h1, h2, w1, w2, e1, e2, page, bare, hlen, hA, hB⟩
theorem strOk_of {x : Str} (h : ∀ c ∈ x.cps.toList, c < 0x110000) : PyData.strOk x = true := by
  unfold PyData.strOk
  rw [← Array.all_toList, List.all_eq_true]
  exact fun c hc => decide_eq_true (h c hc)
theorem good_of {p : Str × Str} (h : Wd p) : GoodP p := by
  obtain ⟨⟨g⟩, ⟨r⟩⟩ := p
  have hg : 1 ≤ g.size := by
    rw [← Array.length_toList]
    have := h.g0
    exact List.length_pos_iff.mpr this
  refine ⟨hg, Nat.le_trans h.g1 (by decide), ?_, ?_, Nat.le_trans h.w1 (by decide), ?_, ?_⟩
  · have h0 : g[0]? = some 32 := by
      rw [Array.getElem?_eq_getElem (show 0 < g.size by omega)]
      exact congrArg some (h.g2 _ (Array.getElem_mem_toList (show 0 < g.size by omega)))
    have hi : Txt.item ⟨g⟩ 0 = ⟨#[32]⟩ := by
      unfold Txt.item Txt.charAt
      have : seqIndex? 0 (Str.length ⟨g⟩) = some 0 := by
        unfold seqIndex?
        have hl : 0 < (Str.length ⟨g⟩) := hg
        simp
        omega
      rw [this, Option.bind_some, h0]
      rfl
    rw [hi]; decide
  · intro e
    rw [ofS_nil] at e
    exact h.w0 (by rw [e])
  · simp [SeqAt.shaped, PyData.canLay0, PyData.canLayAll0, PyData.depth, PyData.depthAll]
    exact ⟨strOk_of fun c hc => by have := h.g2 c hc; omega, strOk_of fun c hc => by have := (h.w2 c hc).2; omega⟩
  · cases hr : r.toList with
    | nil => exact absurd hr h.w0
    | cons c t =>
      obtain ⟨h1, h2⟩ := h.w2 c (by show c ∈ r.toList; rw [hr]; exact .head _)
      exact ⟨c, .head _, letter_ns h1 h2⟩
theorem page_len {ml head : Int} {ps : Row} {e : Str} (hh : 0 ≤ head) (hg : ∀ p ∈ ps, GoodP p) (hn : ps.length ≤ 20) (he : e.length ≤ 10) : (pageF ml head e ps).length ≤ 9000 := by
  unfold pageF
  refine Nat.le_trans (join_le _ _) ?_
  rw [sum_add]
  have h1 := linesF_len ml head ps
  have h2 := lenP_le fun p hp => ⟨(hg p hp).f2, (hg p hp).r2⟩
  obtain ⟨_, _, h3, _⟩ := foldF_inv ml head hh ps hg ps.length (Nat.le_refl _)
  rw [List.take_length] at h3
  have h4 : (linesF (foldF ml head ps).1 (foldF ml head ps).2.1).length ≤ 21 := by
    unfold linesF
    split
    · omega
    · rw [List.length_append]; simp; omega
  have h5 : (linesF (foldF ml head ps).1 (foldF ml head ps).2.1).length * e.length ≤ 21 * 10 := Nat.mul_le_mul h4 he
  omega
theorem tale {head width : Int} {e ws : Str} {ps : Row} (S : Sep e ws) (hW : ∀ p ∈ ps, Wd p) (hn2 : 2 ≤ ps.length) (hn : ps.length ≤ 20) (h1 : 0 ≤ head) (h2 : head ≤ 40) (w1 : 0 ≤ width) (w2 : width ≤ 40) (hbig : lenP ps > width) : Tale head width e ps := by
  cases ps with
  | nil => simp at hn2
  | cons p qs =>
  have hq : qs ≠ [] := by rintro rfl; simp at hn2
  obtain ⟨room0, pre, hpre, hroom, hrows, hlines, _⟩ := both_lay head width h1 p qs
  have hTne := lay_ne width qs room0 [p] (by simp)
  have hTflat := lay_flat width qs room0 [p]
  have hTdrop := lay_drop width qs room0 [p]
  have hTtwo := lay_two width qs room0 [p] hq (show lenP (p :: qs) > room0 by omega)
  generalize lay width qs room0 [p] = T at *
  have hTflat : T.flatten = p :: qs := hTflat
  have hRws : Rws T := fun r hr => ⟨hTne r hr, fun z hz => hW z (by rw [← hTflat]; exact List.mem_flatten.mpr ⟨r, hr, hz⟩)⟩
  have hfil : (rowsOf (rowsF head width (p :: qs))).filter ne = T := by
    rw [hrows, List.filter_append]
    have e1 : pre.filter ne = [] := by rcases hpre with rfl | rfl <;> rfl
    have e2 : T.filter ne = T := List.filter_eq_self.mpr fun r hr => by
      have := hTne r hr
      unfold ne
      cases r with
      | nil => exact absurd rfl this
      | cons _ _ => rfl
    rw [e1, e2]; rfl
  have hpage : pageF width head e (p :: qs) = Txt.join e ((pre ++ T).map txt) := by unfold pageF; rw [hlines]
  have hgood : ∀ z ∈ p :: qs, GoodP z := fun z hz => good_of (hW z hz)
  have hel := S.len
  have hrestS : ∀ k, k + 1 ≤ T.length → restF (pageF width head e (p :: qs)) width e T (k + 1) = Str.join e ((T.drop (k + 1)).map txt) := by
    intro k hk
    show pageF width 0 e (T.drop (k + 1)).flatten = _
    rw [← tjoin']
    by_cases hlt : k + 1 < T.length
    · obtain ⟨p', rest, hd⟩ := hTdrop (k + 1) (by omega) hlt
      have hfl := lay_flat width rest width [p']
      obtain ⟨room1, pre1, _, _, _, hl1, hz⟩ := both_lay 0 width (Int.le_refl _) p' rest
      obtain ⟨z1, z2⟩ := hz rfl
      subst z1 z2
      rw [hd, hfl]
      unfold pageF
      rw [show [p'] ++ rest = p' :: rest from rfl, hl1]
      rfl
    · rw [List.drop_of_length_le (by omega)]
      rfl
  have hrest : ∀ k, k ≤ T.length → ∃ pk, (pk = [] ∨ pk = [[]]) ∧ restF (pageF width head e (p :: qs)) width e T k = Str.join e ((pk ++ T.drop k).map txt) := by
    intro k hk
    cases k with
    | zero => exact ⟨pre, hpre, by rw [← tjoin']; exact hpage⟩
    | succ k => exact ⟨[], .inl rfl, hrestS k hk⟩
  have hsub : ∀ k, ∀ z ∈ (T.drop k).flatten, z ∈ p :: qs := fun k z hz => by rw [← hTflat]; exact flat_sub hz
  have hlen : ∀ k, k ≤ T.length → (restF (pageF width head e (p :: qs)) width e T k).length ≤ 9000 := by
    intro k hk
    cases k with
    | zero => exact page_len h1 hgood hn hel
    | succ k =>
      have h9 := flat_len T (k + 1)
      rw [hTflat] at h9
      exact page_len (Int.le_refl _) (fun z hz => hgood z (hsub _ z hz)) (by omega) hel
  have e1 : 1 ≤ e.length := by
    show 1 ≤ e.cps.size
    rw [← Array.length_toList, S.eq]; simp
  have hdropR : ∀ k, Rws (T.drop k) := fun k r hr => hRws r (List.mem_of_mem_drop hr)
  refine tale_of hfil h1 h2 w1 w2 e1 hel (by rw [hrows]; exact hpage) ?_ hlen ?_ ?_
  · intro a b d
    rw [hpage, tjoin' e] at d
    match T, hTtwo, hRws, d with
    | r :: r2 :: T', _, hR, d => exact doc_bare S hpre hR d
  · intro k hk
    obtain ⟨pk, hpk, hr⟩ := hrest k (by omega)
    have hne : (pk ++ T.drop k).map txt ≠ [] := by
      intro h
      have := congrArg List.length h
      simp at this
      omega
    rw [hr, split_sep S hne (pre_free hpk fun r hr => (hdropR k r hr).2), join_txt, nil_rows pk hpk]
  · intro k hk a b d
    obtain ⟨pk, hpk, hr⟩ := hrest k (by omega)
    rw [hr, List.drop_eq_getElem_cons hk] at d
    have hR : Rws (T[k] :: T.drop (k + 1)) := by rw [← List.drop_eq_getElem_cons hk]; exact hdropR k
    obtain ⟨ha, hb⟩ := doc_rest S hpk hR d
    exact ⟨ha, hb.trans (hrestS k (by omega)).symm⟩
end
section
theorem clear_K6 : True := by
  k_with_none
  w_top off
  trivial
noncomputable def wdOk (p : Str × Str) : Bool := !p.1.cps.toList.isEmpty && decide (p.1.length ≤ 2) && p.1.cps.toList.all (· == 32) && !p.2.cps.toList.isEmpty && decide (p.2.length ≤ 10) && p.2.cps.toList.all fun c => decide (97 ≤ c) && decide (c ≤ 122)
theorem wd_of {p : Str × Str} (h : wdOk p = true) : Wd p := by
  unfold wdOk at h
  simp only [Bool.and_eq_true, Bool.not_eq_true', decide_eq_true_eq, List.all_eq_true, beq_iff_eq] at h
  obtain ⟨⟨⟨⟨⟨a, b⟩, c⟩, d⟩, e⟩, f⟩ := h
  exact ⟨fun q => by rw [q] at a; simp at a, b, c, fun q => by rw [q] at d; simp at d, e, f⟩
theorem word_ok : ∀ n : Nat, n < 2 → ∀ i : Nat, i < 6 → ∀ m : Nat, m < 6 → wdOk (Txt.mul (Str.ofString " ") (1 + (n : Int)), Txt.mul (Txt.item (Str.ofString "abcdef") (i : Int)) (1 + (m : Int))) = true := by decide +kernel
theorem word_wd (x : Int) : Wd (wordP x) := by
  have a1 := Int.fmod_nonneg_of_pos (x.fdiv 6) (show (0 : Int) < 2 by decide)
  have a2 := Int.fmod_lt_of_pos (x.fdiv 6) (show (0 : Int) < 2 by decide)
  have b1 := Int.fmod_nonneg_of_pos (x.fdiv 12) (show (0 : Int) < 6 by decide)
  have b2 := Int.fmod_lt_of_pos (x.fdiv 12) (show (0 : Int) < 6 by decide)
  have c1 := Int.fmod_nonneg_of_pos x (show (0 : Int) < 6 by decide)
  have c2 := Int.fmod_lt_of_pos x (show (0 : Int) < 6 by decide)
  unfold wordP
  generalize (x.fdiv 6).fmod 2 = n at *
  generalize (x.fdiv 12).fmod 6 = i at *
  generalize x.fmod 6 = m at *
  obtain ⟨n, rfl⟩ := Int.eq_ofNat_of_zero_le a1
  obtain ⟨i, rfl⟩ := Int.eq_ofNat_of_zero_le b1
  obtain ⟨m, rfl⟩ := Int.eq_ofNat_of_zero_le c1
  exact wd_of (word_ok n (by omega) i (by omega) m (by omega))
theorem words_wd (ks : List Int) : ∀ p ∈ wordsF ks, Wd p := by
  intro p hp
  unfold wordsF at hp
  rcases List.mem_append.mp hp with hp | hp
  · simp only [List.mem_cons, List.not_mem_nil, or_false] at hp
    rcases hp with rfl | rfl | rfl | rfl <;> exact wd_of (by decide +kernel)
  · obtain ⟨x, _, rfl⟩ := List.mem_map.mp hp
    exact word_wd x
theorem wd_dot {p : Str × Str} (h : Wd p) : ∀ c ∈ p.1.cps.toList ++ p.2.cps.toList, c ≠ 46 := by
  intro c hc
  rcases List.mem_append.mp hc with hc | hc
  · rw [h.g2 c hc]; decide
  · have := h.w2 c hc
    omega
theorem lenP_two : ∀ r : Row, (∀ p ∈ r, Wd p) → 2 * (r.length : Int) ≤ lenP r
  | [], _ => by decide
  | p :: r, h => by
    have ih := lenP_two r fun q hq => h q (.tail _ hq)
    have h1 := (good_of (h p (.head _))).f1
    have h2 : 1 ≤ p.2.length := by
      show 1 ≤ p.2.cps.size
      rw [← Array.length_toList]
      exact List.length_pos_iff.mpr (h p (.head _)).w0
    have e : lenP (p :: r) = (p.1.length : Int) + p.2.length + lenP r := by simp [lenP]
    rw [e, List.length_cons]
    omega
theorem big (ks : List Int) (width : Int) (hw : width < 20) (h0 : ks = [] → width < 18) : lenP (wordsF ks) > width := by
  unfold wordsF
  rw [lenP_app]
  have e : lenP [(Str.ofString " ", Str.ofString "the"), (Str.ofString "  ", Str.ofString "page"), (Str.ofString " ", Str.ofString "is"), (Str.ofString " ", Str.ofString "laid")] = 18 := by decide +kernel
  rw [e]
  have h := lenP_two (ks.map wordP) fun p hp => by
    obtain ⟨x, _, rfl⟩ := List.mem_map.mp hp
    exact word_wd x
  rw [List.length_map] at h
  cases ks with
  | nil => have := h0 rfl; simp only [List.length_nil] at h; omega
  | cons x r => rw [List.length_cons] at h; omega
theorem sepOf (e ws : Str) (h : (e.cps.toList == 10 :: (ws.cps.toList ++ [10]) && ws.cps.toList.all (fun c => c == 32 || c == 9) && PySem.Builtin.Str.strKind e == 1 && decide (e.length ≤ 10)) = true) : Sep e ws := by
  simp only [Bool.and_eq_true, beq_iff_eq, List.all_eq_true, Bool.or_eq_true, decide_eq_true_eq] at h
  exact ⟨h.1.1.1, h.1.1.2, h.1.2, h.2⟩
theorem trips_tale (ks : List Int) (hk : ks.length ≤ 6) : ∀ t ∈ trips ks.sum, Tale t.1 t.2.1 t.2.2 (wordsF ks) := by
  have hn : (wordsF ks).length = 4 + ks.length := by unfold wordsF; simp; omega
  have key : ∀ (head b : Int) (e ws : Str), Sep e ws → 0 ≤ head → head ≤ 40 → b < 18 → 0 ≤ b → Tale head ((b + ks.sum).fmod 20) e (wordsF ks) := by
    intro head b e ws S h1 h2 hb hb0
    have a1 := Int.fmod_nonneg_of_pos (b + ks.sum) (show (0 : Int) < 20 by decide)
    have a2 := Int.fmod_lt_of_pos (b + ks.sum) (show (0 : Int) < 20 by decide)
    refine tale S (words_wd ks) (by omega) (by omega) h1 h2 a1 (by omega) (big ks _ a2 fun h0 => ?_)
    subst h0
    rw [List.sum_nil, Int.add_zero, Int.fmod_eq_emod_of_nonneg _ (by decide)]
    omega
  intro t ht
  unfold trips at ht
  simp only [List.mem_cons, List.not_mem_nil, or_false] at ht
  rcases ht with rfl | rfl | rfl
  · exact key 0 9 _ _ (sepOf (Str.ofString "\n\n") (Str.ofString "") (by decide +kernel)) (by decide) (by decide) (by decide) (by decide)
  · exact key 4 11 _ _ (sepOf (Str.ofString "\n \n") (Str.ofString " ") (by decide +kernel)) (by decide) (by decide) (by decide) (by decide)
  · exact key 7 8 _ _ (sepOf (Str.ofString "\n\t \n") (Str.ofString "\t ") (by decide +kernel)) (by decide) (by decide) (by decide) (by decide)
theorem law_holds (l : Nat) (vs : List Value) (ns : List Int) (tb tr : Array Value) (G : GW w mean mg mb b₀) (gb : AllBare s.gens) (O : Own b₀ s.heap (tabS tb tr)) (htb : TabOk posLen tb) (htr : TabOk posStr tr) (hl : s.heap.IsList l vs.toArray) (hi : IntsAre vs ns) (hdp : dp < 700) (hun : un < 1000) (hn : ns.length ≤ 80)
    (h : ∀ tb' tr' h' (gs : BG) tk', TabOk posLen tb' → TabOk posStr tr' → Own b₀ h' (tabS tb' tr') → Kp (tabS tb tr) s.heap h' → R (.ok (.ret (.bool true))) ⟨h', gs.1, s.drawn, tk', s.os⟩) :
    codeAny (model Challenge.rw_ph0143_01.row.prog w) (mkA dp un gd fs) (.call (.ref 239) ⟨[.ref l], []⟩) R s :=
  law_spec l vs ns tb tr G gb O htb htr hl hi hdp hun hn (fun p hp => good_of (words_wd _ p hp)) (fun p hp => wd_dot (words_wd _ p hp)) (trips_tale _ (by rw [List.length_take]; omega)) h
end
section
theorem clear_F1 : True := by
  k_with_none
  w_top off
  trivial
theorem final_walk {mean : ExcName → Option Value} {mg mb : Str → Option Value} {s₁ : Shared} {fa : Addr} {args : List WData} {vals : List Value} {as : List Addr} {cl : Str → Option Addr}
    (T : Top view14 (looseW view14 [Str.ofString "_Accumulator"]) mean mg mb s₁.heap) (KX : (hd.heap_1 w.params).In s₁.heap) (hT8 : ∀ P ∈ [161, 168], s₁.heap.get? P = some (tabObj #[]))
    (hmg : mg (Str.ofString "law") = some (.ref fa)) (hg : s₁.gens = #[]) (hpre : Challenge.rw_ph0143_01.row.claim.pre args = true) (hlay : WData.layableAll args = true) (hrd : ReadsAllW Challenge.rw_ph0143_01.row.records cl s₁.heap vals args as)
    (hwl : WellAll w.params s₁.heap vals args) (hlo : ∀ a ∈ as, (a == sysModules) = false) :
    wpAny (model Challenge.rw_ph0143_01.row.prog w) callerA (call (.ref fa) vals) (fun v s' => GoodWG Challenge.rw_ph0143_01.row.claim cl mean args s₁ (.ok (.ret v)) s') (fun e s' => GoodWG Challenge.rw_ph0143_01.row.claim cl mean args s₁ (.error e) s') s₁ := by
  wrow_args hpre hlay hrd hwl hlo
  rename IntsAre _ _ => hI
  rename Heap.IsList _ _ _ => hL
  rename (¬ ((63 : Nat) : Int) < _) => hc
  refine enter_call ?_
  have e1 : mg (Str.ofString "law") = some (.ref 239) := mg_of KX T.g (by kernel_rfl)
  have e2 : fa = 239 := by
    rw [e1] at hmg
    exact (Value.ref.inj (Option.some.inj hmg)).symm
  subst e2
  have hT9 : TabsAt [(165, 161), (172, 168)] s₁.heap := List.forall_mem_cons.mpr ⟨⟨codeHd_of_K (c := 165) (P := 161) KX (by kernel_rfl), hT8 161 (.head _)⟩, List.forall_mem_cons.mpr ⟨⟨codeHd_of_K (c := 172) (P := 168) KX (by kernel_rfl), hT8 168 (.tail _ (.head _))⟩, List.forall_mem_nil _⟩⟩
  have G : GW w mean mg mb (ghostOf s₁.heap [(165, 161), (172, 168)]) := ⟨ghost_K hT9 KX (by kernel_rfl), ghost_top hT9 T⟩
  have O : Own (ghostOf s₁.heap [(165, 161), (172, 168)]) s₁.heap (tabS #[] #[]) := ⟨fun b o e => of_hideAll _ e, List.forall_mem_cons.mpr ⟨⟨hT8 161 (.head _), hideAll_none _ (by decide)⟩, List.forall_mem_cons.mpr ⟨⟨hT8 168 (.tail _ (.head _)), hideAll_none _ (by decide)⟩, List.forall_mem_nil _⟩⟩⟩
  refine law_holds (dp := 1 + claimMargin) (un := 4) (gd := some []) (fs := []) _ _ _ #[] #[] G (.of_eq hg) O (.inl rfl) (.inl rfl) hL hI (by decide) (by decide) (by omega) fun tb' tr' h' gs tk' b1 b2 O' K' => ?_
  have one : ∀ b o, s₁.heap.get? b = some o → h'.get? b = some o ∨ ∃ q ∈ [((165 : Nat), (161 : Nat)), (172, 168)], q.2 = b ∧ ∃ ps, h'.get? b = some (tabObj ps) := fun b o e => by
    by_cases h1 : b = 161
    · subst h1
      exact .inr ⟨_, .head _, rfl, tb', (O'.mem (161, tabObj tb') (.head _)).1⟩
    · by_cases h2 : b = 168
      · subst h2
        exact .inr ⟨_, .tail _ (.head _), rfl, tr', (O'.mem (168, tabObj tr') (.tail _ (.head _))).1⟩
      · exact .inl (K' b o e (List.forall_mem_cons.mpr ⟨Ne.symm h1, List.forall_mem_cons.mpr ⟨Ne.symm h2, List.forall_mem_nil _⟩⟩))
  refine ⟨.inl ⟨.bool true, .bool true, [], rfl, fun _ => rfl, .bool true, ?_, fun _ => ⟨.nil, fun _ h => nomatch h⟩⟩, ⟨fun b o e => ?_, fun b o e => ?_⟩, rfl, gs.2⟩
  · first | kernel_rfl | wrow_post
  · rcases one b o e with h | ⟨q, hq, rfl, ps, hP⟩
    · exact .inl h
    · have e2 := (hT9 q hq).2
      rw [e] at e2
      cases e2
      exact .inr (.inl ⟨((hT9 q hq).1.tab (hT9 q hq).2).isCodeTable, rfl, #[], ps, rfl, by rw [Array.empty_append]; exact hP⟩)
  · rcases one b o e with h | ⟨q, hq, rfl, ps, hP⟩
    · exact ⟨o, h⟩
    · exact ⟨_, hP⟩
end
end
end Mine
end
section
open PySem PySem.W PyProof.Rows PySem.Calls PySem.Spec
set_option maxHeartbeats 8000000 in
theorem PySem.Challenge.cw_ph0143_01_holds : PySem.Challenge.rw_ph0143_01.Holds := by
  w_on
  refine holds_law Mine.said14 fun _ => ?_
  refine holds_open (r := PySem.Challenge.rw_ph0143_01.row) (q := Mine.view14) (loose := [Str.ofString "_Accumulator"]) (Xt := fun s => xlAt Mine.view14 [] s && recOk (RowW.records PySem.Challenge.rw_ph0143_01.row.toRowW) s) (XP := XL Mine.view14 []) (Yf := Hook.obs Mine.hook14) (Ya := Hook.val Mine.hook14) (YP := Hook.says Mine.hook14) (N := 2810) Mine.headL (Hook.of Mine.hook14) (Hook.keeps Mine.hook14) (fun s e => xl_of s (Bool.and_eq_true_iff.mp e).1) XL.keeps (by rfl) (by rfl) (by rfl) (fun s e => recFacts_of (Bool.and_eq_true_iff.mp e).2) (by rfl) (by first | assumption | decide +kernel) (by decide +kernel) ⟨rfl, rfl, rfl, rfl, rfl, by decide +kernel⟩ ?hw ?hc
  case hw => w_witness2
  intro w s₀ s₁ mg mb G Y fa o pm cd doc dV kV ho hd hcd hD hmg hg args vals as hpre hlay hrd hwl hlo
  have KX := Mine.in14 Y
  have hT8 := Mine.tabs14 Y
  refine Ground.open G ?_
  intro T B D TE TW
  exact Mine.final_walk T KX hT8 hmg hg hpre hlay hrd hwl hlo
end
