import PyProof.Rows.All
import Wide.All
import OpenK.AllK
import Wide.FinOn
import PyProof.ListNew
import KE.BytesMake
import PyProof.StrLawsTight
import KE.KWhileD
import KE.KLcTest
import KE.KEqSeq
import PyProof.Rows.DictRows
import PyProof.Draws
import KE.KxDecode
import KE.KBytesCut
import KE.KDictSum
import PyProof.Rows.SortStrRead
import Lean
import PySem.Challenge.RW_rt0068_01
set_option Elab.async false
set_option compiler.extract_closed false
set_option linter.unusedVariables false
set_option linter.unusedSimpArgs false
namespace Mine
section
open _root_.PySem _root_.PySem.W _root_.PyProof.Rows _root_.PySem.Calls
open _root_.PySem.Sem (wp)
set_option maxRecDepth 100000
set_option maxHeartbeats 1000000
/-- codes that hold nothing a bytearray would ask after -/
noncomputable def decIds : List String := ["bytearray.__contains__", "bytearray.__mod__", "bytearray.__rmod__", "_struct.pack_into.held", "bytearray.find.held"] ++ Builtin.Bytes.decodersThatHold
noncomputable def noDec : Code → Bool
  | .builtin id _ => !(decIds.contains id)
  | _ => true
noncomputable def Clean (Γ : Ctx) : Prop := ∀ x ∈ Γ.below, noDec x.1 = true
/-- as wpAny, but for clean contexts alone, and nothing is raised -/
noncomputable def wpG {α : Type} (M : Model) (A : Around) (t : Sem α) (Q : α → Shared → Prop) (s : Shared) : Prop :=
  ∀ Γ p, Γ.In A → noDec Γ.code = true → Clean Γ → wp M Γ t (fun a _ s' => Q a s') (fun _ _ _ => False) p s

/-- the row's thread has nothing below it: what holds of clean contexts holds of it -/
theorem thread_of_G {prog : Program} {w : World} {t : Sem Fin} {s : Shared} {R : Value → Shared → Prop} (hs : s.asleep)
    (h : wpG (model prog w) callerA t (fun fin s' => ∃ v, fin = .done (.ret v) ∧ R v s' ∧ AllBare s'.gens) s) :
    ∃ n v s' s'', schedN (denote table) prog w n (.single s ⟨t, .builtin "claim.caller" {}, default, []⟩) = .halted (.done (.ret v)) s' ∧ s'.heap.life = s.heap.life ∧
      s'.heap = s''.heap ∧ s'.os = s''.os ∧ R v s'' := by
  have h0 := h ⟨.builtin "claim.caller" {}, none, none, [], none⟩ default caller_in (by decide +kernel) (fun x hx => nomatch hx)
  obtain ⟨n, r, s₁, s₂, hs1, hn, hfo, v, hr, hR⟩ := wp_halts_full (M := model prog w) (R := fun r s' => ∃ v, r = .ok (.ret v) ∧ R v s') hs
    (Sem.wp_mono _ _ _ (fun fin p s' ⟨v, e, q, g⟩ => by subst e; exact ⟨⟨v, rfl, q⟩, leftWithCleanup_false_of_bare g⟩) (fun _ _ _ x => x.elim) _ _ h0)
  subst hr
  obtain ⟨eh, _, _, eo, _⟩ := Shared.forget_eq hfo
  exact ⟨n, v, s₂, s₁, hs1, runN_life _ _ _ hn, eh, eo, hR⟩

/-- what is asked of the walk: the call from module level, on the clean stack -/
abbrev WalkG (q : Program) (loose : List Str) (XP : (Str → Option Value) → Heap → Prop) (YP : World → Heap → Prop) (r : RowW) (d : DefRec) (kwd : List (Str × Expr)) : Prop :=
  ∀ (w : World) (s₀ s₁ : Shared) (mg mb : Str → Option Value), Ground q loose r.records XP w s₀ mg mb s₁.heap → YP w s₁.heap → ∀ (a : Addr) (o : Obj) (pm cd doc dV kV : Value), s₁.heap.get? a = some o →
    o.data = .func { docDef d.name d.params d.body d.scope pm cd doc with defaults := dV, kwdefaults := kV } → s₁.heap.CodeRec cd d.name → Dflts mg s₁.heap d.params kwd dV kV → mg d.name = some (.ref a) → s₁.gens = #[] →
    ∀ (args : List WData) (vals : List Value) (as : List Addr), r.claim.pre args = true → WData.layableAll args = true → ReadsAllW r.records (classAt s₀.heap) s₁.heap vals args as → WellAll w.params s₁.heap vals args → (∀ a ∈ as, (a == sysModules) = false) →
      wpG (model r.prog w) callerA (PySem.call (.ref a) vals) (fun v s' => GoodWG r.claim (classAt s₀.heap) (ExcName.means s₀.heap) args s₁ (.ok (.ret v)) s') s₁
/-- the row's call, behind a walk over clean stacks -/
theorem call_of_G {r : OpenRow} {w : World} {s : Shared} {f : Value} {free : Addr → Prop} {gens : Prop} {kept : Heap → Prop} (hfr : frees r.toRowW = true) (hwi : r.toRowW.claim.within = [])
    (hz : s.asleep) (hgens : s.gens = #[]) (hkept : ∀ h', kept h')
    (h : ∀ args, r.toRowW.claim.pre args = true → WData.layableAll args = true → ∀ ord : List DictEntry → List DictEntry, (∀ l, (ord l).Perm l) → ∃ (vs : List Value) (s₁ : Shared) (as : List Addr) (mg : Str → Option Value), layAllW r.toRowW.claim.records (classAt s.heap) w.params ord args s = some (vs, s₁) ∧
      Laid r.toRowW.claim.records w s s₁ args vs as ∧ s₁.heap.Ns mainGlobals mg ∧ mg r.name = some f ∧
      wpG (model r.prog w) callerA (PySem.call f vs) (fun v s' => GoodWG r.toRowW.claim (classAt s.heap) (ExcName.means s.heap) args s₁ (.ok (.ret v)) s') s₁) :
    r.toRowW.claim.CallFrom (callStub r.name) w free gens kept s := by
  obtain ⟨hsame, hu, ha, hap, hm⟩ := frees_parts hfr
  intro args hpre hlay ord hord
  obtain ⟨vs, s₁, as, mg, hl, L, hg, hf, hw⟩ := h args hpre hlay ord hord
  have hal := layAllW_rest _ _ _ hl
  obtain ⟨n, v, s', s'', hn, hlife, eh, eo, g, eo'⟩ := thread_of_G (prog := r.prog) (w := w) (s := s₁) (t := do match ← nsGet mainNs r.name with
      | some f => do ret (← PySem.call f vs)
      | none => unsupported "claim.caller:no-such-global") (R := fun v s' => r.toRowW.claim.Ends s args vs s₁ (.ok (.ret v)) s' ∧ s'.os = s.os)
    (Shared.asleep_of_life hal.2.2.2 hz) (by
      intro Γ p hΓ h1 h2
      rw [Sem.wp_bind']
      refine Sem.wp_mono _ _ _ (fun o p' s' hq => ?_) (fun _ _ _ x => x) _ _ ((wpAny_nsGet (M := model r.prog w) (A := callerA) (E := fun _ _ => False) (Q := fun o s' => o = some f ∧ s' = s₁) hg ⟨hf, rfl⟩) Γ p hΓ)
      obtain ⟨rfl, rfl⟩ := hq
      show wp _ _ (PySem.call f vs >>= fun v => ret v) _ _ _ _
      rw [Sem.wp_bind']
      refine Sem.wp_mono _ _ _ (fun v p'' s'' g => ?_) (fun _ _ _ x => x) _ _ (hw Γ p' hΓ h1 h2)
      have z := g.laid (c := r.toRowW.claim) hsame hwi (ident_freeW hu ha hap) L
      exact ⟨v, rfl, ⟨z.1, z.2.1⟩, z.2.2⟩)
  have g := g.congr eh
  rcases g with ⟨v', e, d1, d2, d3, d4, d5⟩ | ⟨_, _, _, e, _⟩
  · obtain rfl : v = v' := by injection e with e; injection e
    exact ⟨vs, s₁, hl, n, _, s', hn, .inl ⟨v, rfl, d1, d2, d3, fun b o y _ => d4 b o y, d5⟩, fun _ i x hx => by rw [hgens] at hx; simp at hx, hkept _, congrArg Life.seen (hlife.trans hal.2.2.2), Shared.rest_eq (eo.trans eo')⟩
  · cases e
/-- the head for such a walk; it stands where the tool that runs the head looks for it -/
theorem PySem.W.holds_open {r : OpenRow} {q : Program} {loose : List Str} {Xt : Shared → Bool} {XP : (Str → Option Value) → Heap → Prop} {α : Type} {Yf : Shared → α} {Ya : World → α} {YP : World → Heap → Prop} {d : DefRec} {kwd : List (Str × Expr)} {N : Nat}
    (left : LeftO r.prog q loose Xt Yf Ya N) (hY : ∀ w s, Yf s = Ya w → YP w s.heap) (hYk : ∀ w h h', YP w h → (∀ b o, h.get? b = some o → h'.get? b = some o) → YP w h')
    (hX : ∀ s, Xt s = true → XP (s.heap.nsMap mainGlobals) s.heap) (hXk : ∀ mg h h', XP mg h → (∀ b o, h.get? b = some o → h'.get? b = some o) → XP mg h')
    (hdef : defOf q r.name = some (d, kwd)) (hp : r.prog.theDef r.name = some (d.params, d.body, d.scope)) (hk : kwWritten? d.params.kwonlyargs d.params.kw_defaults = some kwd) (hRf : ∀ s, Xt s = true → RecFacts r.records s.heap) (hwr : r.writes = false)
    (k1 : r.wellSaid = true) (ok : (chainsOk q && opensWell r.prog && (frees r.toRowW && r.within.isEmpty)) = true) (hb : r.prog.bare) (hw : r.toRowW.promised)
    (walk : WalkG q loose XP YP r.toRowW d kwd) : r.Holds := by
  simp only [Bool.and_eq_true] at ok
  obtain ⟨⟨hch, o1⟩, k5, k6⟩ := ok
  have hn := defOf_name hdef
  refine ⟨k1, hw, ⟨hb, o1, by show r.makers.map _ = []; rw [(frees_parts k5).2.2.2.2]; rfl⟩, hw.witness, fun w => ⟨(left.behind hX hch w).1, fun sR hR => ?_⟩⟩
  obtain ⟨s₀, hf, hg0, s, hT, hz, hgens, hg, G0, y⟩ := (left.behind (XP := fun mg h => XP mg h ∧ RecFacts r.records h) (fun s hs => ⟨hX s hs, hRf s hs⟩) hch w).2 sR hR
  have RF := G0.X.2
  have G1 : Ground q loose [] XP w s (s.heap.nsMap mainGlobals) (s.heap.nsMap builtinsNs) s.heap := ⟨G0.T, G0.B, G0.D, G0.TE, G0.TD, G0.W, G0.X.1, G0.cls, G0.has, G0.apart, G0.once, G0.K⟩
  have G := RF.ground G1
  have hgens : s.gens = #[] := Array.eq_empty_of_size_eq_zero (beq_iff_eq.mp hgens)
  refine ⟨s₀, hf, hg0, s, hT, fun n hin => ?_, RF.1, RF.2.1, ?_⟩
  · obtain rfl : n = r.name := by split at hin <;> simp_all
    exact pinned_of_view hg G1 hdef hp hk
  · obtain ⟨a, o, pm, cd, doc, dV, kV, h1, _⟩ := G.fn hdef
    refine call_of_G (f := .ref a) k5 (List.isEmpty_iff.mp k6) hz hgens (fun h' q => by rw [hwr] at q; cases q) fun args hpre hlay ord hord => ?_
    obtain ⟨⟨vs, s₁⟩, hl⟩ := Option.isSome_iff_exists.mp (layAllW_isSome (P := w.params) (ord := ord) G.has args r.args s (pre_splitW hpre).1)
    have keeps := layAllW_keeps _ _ _ hl
    have hal := layAllW_rest _ _ _ hl
    obtain ⟨as, hrd, hin, hold⟩ := reads_layAllW hord _ _ _ hl hlay s₁.heap (fun _ _ e => e)
    have L : Laid r.toRowW.claim.records w s s₁ args vs as := ⟨⟨ord, hord, hl⟩, hrd, hin, hold, keeps, hal.1.trans hgens, hal.2.2.1⟩
    have G₁ := G.keeps hXk keeps
    obtain ⟨a', o, pm, cd, doc, dV, kV, h1', h2, h3, h4, h5⟩ := G₁.fn hdef
    obtain rfl : a = a' := by rw [h1] at h1'; injection h1' with e; injection e
    exact ⟨vs, s₁, as, _, hl, L, G₁.T.g, h1, walk w s s₁ _ _ G₁ (hYk _ _ _ (hY w s y) keeps) a o pm cd doc dV kV h2 h3 h4 h5 (hn ▸ h1) L.gens args vs as hpre hlay L.reads L.well (L.low G.low)⟩
end
section
open _root_.PySem _root_.PySem.W _root_.PyProof.Rows _root_.PySem.Calls
set_option maxRecDepth 100000
set_option maxHeartbeats 8000000
/-- the statements of the text that the walk reads -/
noncomputable def seenAt : List Nat := [0, 2, 4, 6, 8, 9, 11, 13, 15, 16, 17, 18, 19, 21, 22, 23, 24, 25, 26, 27, 28, 29, 30, 31, 32, 33, 34, 35, 36, 37, 38, 39, 40, 41, 42, 43, 44, 45, 46, 48, 49, 50, 51, 52, 53, 54, 55, 56]
noncomputable def vw : Program := { PySem.Challenge.pw_rt0068_01 with main := { PySem.Challenge.pw_rt0068_01.main with body := seenAt.filterMap fun i => PySem.Challenge.pw_rt0068_01.main.body[i]? } }
noncomputable def seenTab : List (Str × WData) := [(Str.ofString "_filemode_table", .tuple [.tuple [.tuple [.int 40960, .str ⟨#[108]⟩], .tuple [.int 49152, .str ⟨#[115]⟩], .tuple [.int 32768, .str ⟨#[45]⟩], .tuple [.int 24576, .str ⟨#[98]⟩], .tuple [.int 16384, .str ⟨#[100]⟩], .tuple [.int 8192, .str ⟨#[99]⟩], .tuple [.int 4096, .str ⟨#[112]⟩]], .tuple [.tuple [.int 256, .str ⟨#[114]⟩]], .tuple [.tuple [.int 128, .str ⟨#[119]⟩]], .tuple [.tuple [.int 2112, .str ⟨#[115]⟩], .tuple [.int 2048, .str ⟨#[83]⟩], .tuple [.int 64, .str ⟨#[120]⟩]], .tuple [.tuple [.int 32, .str ⟨#[114]⟩]], .tuple [.tuple [.int 16, .str ⟨#[119]⟩]], .tuple [.tuple [.int 1032, .str ⟨#[115]⟩], .tuple [.int 1024, .str ⟨#[83]⟩], .tuple [.int 8, .str ⟨#[120]⟩]], .tuple [.tuple [.int 4, .str ⟨#[114]⟩]], .tuple [.tuple [.int 2, .str ⟨#[119]⟩]], .tuple [.tuple [.int 513, .str ⟨#[116]⟩], .tuple [.int 512, .str ⟨#[84]⟩], .tuple [.int 1, .str ⟨#[120]⟩]]])]
noncomputable abbrev hP : Program := PySem.Challenge.pw_rt0068_01
/-- the k-th statement of the text; of a class the j-th of its body; a def's parameters, body, scope -/
noncomputable def hSt (k : Nat) : Stmt := match (behindTheImports hP)[k]? with | some s => s | none => default
noncomputable def hIn (k j : Nat) : Stmt := match hSt k with | .ClassDef _ _ _ b _ _ _ _ _ _ _ => (match b[j]? with | some s => s | none => default) | _ => default
noncomputable def hA : Stmt → Arguments | .FunctionDef _ a _ _ _ _ _ _ _ _ => a | _ => default
noncomputable def hB : Stmt → List Stmt | .FunctionDef _ _ b _ _ _ _ _ _ _ => b | _ => default
noncomputable def hS : Stmt → Scope | .FunctionDef _ _ _ _ _ _ sc _ _ _ => sc | _ => default
noncomputable abbrev ob11_0 (_ : Params) : Obj := { cls := Value.type "tuple", data := Data.seq #[] }
noncomputable abbrev ob12_0 (_ : Params) : Obj := { cls := Value.none, data := Data.fields #[] }
noncomputable abbrev ob13_0 (_ : Params) : Obj := { cls := Value.type "code", data := Data.fields #[Value.str (Str.ofString "<module>") 182, Value.str (Str.ofString "<module>") 183, Value.str (Str.ofString "/claim/cut.py") 184, Value.int 1 0, Value.int 0 0, Value.int 0 0, Value.int 0 0, Value.int 0 0, Value.ref 11, Value.bool false, Value.int 181 0, Value.ref 12, Value.none, Value.none, Value.none, Value.none, Value.int 185 0, Value.int 1 0, Value.str (Str.ofString "/claim/cut.py") 186] }
noncomputable abbrev ob14_0 (_ : Params) : Obj := { cls := Value.type "frame", slots := #[some (Value.ref 13), some (Value.ref 3), some (Value.ref 3), none, some (Value.str (Str.ofString "__main__") 164), none, some (Value.ref 0)] }
noncomputable abbrev ob3_2 (P : Params) : Obj := { cls := Value.type "dict", data := Data.dict #[{ hash := PyData.keyHash P (Str.ofString "__name__"), key := Value.str (Str.ofString "__name__") 165, val := Value.str (Str.ofString "abc") 218 }, { hash := PyData.keyHash P (Str.ofString "__doc__"), key := Value.str (Str.ofString "__doc__") 166, val := Value.none }, { hash := PyData.keyHash P (Str.ofString "__package__"), key := Value.str (Str.ofString "__package__") 167, val := Value.none }, { hash := PyData.keyHash P (Str.ofString "__loader__"), key := Value.str (Str.ofString "__loader__") 168, val := Value.builtin "__main__.__loader__#opaque" }, { hash := PyData.keyHash P (Str.ofString "__spec__"), key := Value.str (Str.ofString "__spec__") 169, val := Value.none }, { hash := PyData.keyHash P (Str.ofString "__annotations__"), key := Value.str (Str.ofString "__annotations__") 170, val := Value.ref 6 }, { hash := PyData.keyHash P (Str.ofString "__builtins__"), key := Value.str (Str.ofString "__builtins__") 171, val := Value.ref 4 }, { hash := PyData.keyHash P (Str.ofString "__file__"), key := Value.str (Str.ofString "__file__") 173, val := Value.str (Str.ofString "/claim/cut.py") 172 }, { hash := PyData.keyHash P (Str.ofString "__cached__"), key := Value.str (Str.ofString "__cached__") 174, val := Value.none }, { hash := PyData.keyHash P (Str.ofString "_wall"), key := Value.str (Str.ofString "_wall") 193, val := Value.ref 21 }, { hash := PyData.keyHash P (Str.ofString "_byteswap"), key := Value.str (Str.ofString "_byteswap") 206, val := Value.ref 28 }, { hash := PyData.keyHash P (Str.ofString "_plain_name"), key := Value.str (Str.ofString "_plain_name") 217, val := Value.ref 35 }, { hash := PyData.keyHash P (Str.ofString "ABCMeta"), key := Value.str (Str.ofString "ABCMeta") 243, val := Value.ref 52 }] 13 }
noncomputable abbrev ob12_2 (_ : Params) : Obj := { cls := Value.none, data := Data.fields #[Value.int 1 0, Value.int 0 0, Value.ref 20, Value.int 5 0, Value.int 0 0, Value.ref 27, Value.int 12 0, Value.int 0 0, Value.ref 34, Value.int 18 0, Value.int 0 0, Value.ref 41] }
noncomputable abbrev ob15_2 (_ : Params) : Obj := { cls := Value.type "tuple", data := Data.seq #[] }
noncomputable abbrev ob16_2 (_ : Params) : Obj := { cls := Value.none, data := Data.fields #[] }
noncomputable abbrev ob17_2 (_ : Params) : Obj := { cls := Value.type "tuple", data := Data.seq #[Value.str (Str.ofString "k") 190] }
noncomputable abbrev ob18_2 (_ : Params) : Obj := { cls := Value.type "tuple", data := Data.seq #[] }
noncomputable abbrev ob19_2 (_ : Params) : Obj := { cls := Value.none, data := Data.func { name := Str.ofString "_wall", qualname := Str.ofString "_wall", params := hA (hSt 0), body := FuncBody.stmts (hB (hSt 0)), scope := hS (hSt 0), globals := 0, closure := [], defaults := Value.none, kwdefaults := Value.none } }
noncomputable abbrev ob20_2 (_ : Params) : Obj := { cls := Value.type "code", data := Data.fields #[Value.str (Str.ofString "_wall") 187, Value.str (Str.ofString "_wall") 188, Value.str (Str.ofString "/claim/cut.py") 189, Value.int 1 0, Value.int 1 0, Value.int 0 0, Value.int 0 0, Value.int 3 0, Value.ref 15, Value.bool true, Value.int 181 0, Value.ref 16, Value.none, Value.ref 17, Value.ref 18, Value.ref 19, Value.int 191 0, Value.int 1 0, Value.str (Str.ofString "/claim/cut.py") 192] }
noncomputable abbrev ob21_2 (_ : Params) : Obj := { cls := Value.type "function", data := Data.func { name := Str.ofString "_wall", qualname := Str.ofString "_wall", params := hA (hSt 0), body := FuncBody.stmts (hB (hSt 0)), scope := hS (hSt 0), globals := 3, closure := [], defaults := Value.none, kwdefaults := Value.none, pyModule := Value.str (Str.ofString "__main__") 164, code := Value.ref 20 } }
noncomputable abbrev ob22_2 (_ : Params) : Obj := { cls := Value.type "tuple", data := Data.seq #[] }
noncomputable abbrev ob23_2 (_ : Params) : Obj := { cls := Value.none, data := Data.fields #[] }
noncomputable abbrev ob24_2 (_ : Params) : Obj := { cls := Value.type "tuple", data := Data.seq #[Value.str (Str.ofString "data") 199, Value.str (Str.ofString "width") 200, Value.str (Str.ofString "swapped_data") 201, Value.str (Str.ofString "i") 202, Value.str (Str.ofString "j") 203] }
noncomputable abbrev ob25_2 (_ : Params) : Obj := { cls := Value.type "tuple", data := Data.seq #[] }
noncomputable abbrev ob26_2 (_ : Params) : Obj := { cls := Value.none, data := Data.func { name := Str.ofString "_byteswap", qualname := Str.ofString "_byteswap", params := hA (hSt 2), body := FuncBody.stmts (hB (hSt 2)), scope := hS (hSt 2), globals := 0, closure := [], defaults := Value.none, kwdefaults := Value.none } }
noncomputable abbrev ob27_2 (_ : Params) : Obj := { cls := Value.type "code", data := Data.fields #[Value.str (Str.ofString "_byteswap") 196, Value.str (Str.ofString "_byteswap") 197, Value.str (Str.ofString "/claim/cut.py") 198, Value.int 5 0, Value.int 2 0, Value.int 0 0, Value.int 0 0, Value.int 3 0, Value.ref 22, Value.bool true, Value.int 181 0, Value.ref 23, Value.none, Value.ref 24, Value.ref 25, Value.ref 26, Value.int 204 0, Value.int 5 0, Value.str (Str.ofString "/claim/cut.py") 205] }
noncomputable abbrev ob28_2 (_ : Params) : Obj := { cls := Value.type "function", data := Data.func { name := Str.ofString "_byteswap", qualname := Str.ofString "_byteswap", params := hA (hSt 2), body := FuncBody.stmts (hB (hSt 2)), scope := hS (hSt 2), globals := 3, closure := [], defaults := Value.none, kwdefaults := Value.none, pyModule := Value.str (Str.ofString "cpy313.wave") 194, code := Value.ref 27 } }
noncomputable abbrev ob29_2 (_ : Params) : Obj := { cls := Value.type "tuple", data := Data.seq #[] }
noncomputable abbrev ob30_2 (_ : Params) : Obj := { cls := Value.none, data := Data.fields #[] }
noncomputable abbrev ob31_2 (_ : Params) : Obj := { cls := Value.type "tuple", data := Data.seq #[Value.str (Str.ofString "x") 212, Value.str (Str.ofString "what") 213, Value.str (Str.ofString "kind") 214] }
noncomputable abbrev ob32_2 (_ : Params) : Obj := { cls := Value.type "tuple", data := Data.seq #[] }
noncomputable abbrev ob33_2 (_ : Params) : Obj := { cls := Value.none, data := Data.func { name := Str.ofString "_plain_name", qualname := Str.ofString "_plain_name", params := hA (hSt 4), body := FuncBody.stmts (hB (hSt 4)), scope := hS (hSt 4), globals := 0, closure := [], defaults := Value.none, kwdefaults := Value.none } }
noncomputable abbrev ob34_2 (_ : Params) : Obj := { cls := Value.type "code", data := Data.fields #[Value.str (Str.ofString "_plain_name") 209, Value.str (Str.ofString "_plain_name") 210, Value.str (Str.ofString "/claim/cut.py") 211, Value.int 12 0, Value.int 2 0, Value.int 0 0, Value.int 0 0, Value.int 3 0, Value.ref 29, Value.bool true, Value.int 181 0, Value.ref 30, Value.none, Value.ref 31, Value.ref 32, Value.ref 33, Value.int 215 0, Value.int 12 0, Value.str (Str.ofString "/claim/cut.py") 216] }
noncomputable abbrev ob35_2 (_ : Params) : Obj := { cls := Value.type "function", data := Data.func { name := Str.ofString "_plain_name", qualname := Str.ofString "_plain_name", params := hA (hSt 4), body := FuncBody.stmts (hB (hSt 4)), scope := hS (hSt 4), globals := 3, closure := [], defaults := Value.none, kwdefaults := Value.none, pyModule := Value.str (Str.ofString "os") 207, code := Value.ref 34 } }
noncomputable abbrev ob36_2 (_ : Params) : Obj := { cls := Value.type "tuple", data := Data.seq #[Value.type "type"] }
noncomputable abbrev ob37_2 (_ : Params) : Obj := { cls := Value.type "builtin_function_or_method", data := Data.fields #[Value.builtin "type.__prepare__", Value.type "type"] }
noncomputable abbrev ob38_2 (P : Params) : Obj := { cls := Value.type "dict", data := Data.dict #[{ hash := PyData.keyHash P (Str.ofString "__module__"), key := Value.str (Str.ofString "__module__") 227, val := Value.str (Str.ofString "abc") 218 }, { hash := PyData.keyHash P (Str.ofString "__qualname__"), key := Value.str (Str.ofString "__qualname__") 229, val := Value.str (Str.ofString "ABCMeta") 228 }, { hash := PyData.keyHash P (Str.ofString "__firstlineno__"), key := Value.str (Str.ofString "__firstlineno__") 231, val := Value.int 18 230 }, { hash := PyData.keyHash P (Str.ofString "register"), key := Value.str (Str.ofString "register") 239, val := Value.ref 49 }, { hash := PyData.keyHash P (Str.ofString "__static_attributes__"), key := Value.str (Str.ofString "__static_attributes__") 240, val := Value.ref 50 }] 5 }
noncomputable abbrev ob39_2 (_ : Params) : Obj := { cls := Value.type "tuple", data := Data.seq #[] }
noncomputable abbrev ob40_2 (_ : Params) : Obj := { cls := Value.none, data := Data.fields #[Value.int 20 0, Value.int 4 0, Value.ref 48] }
noncomputable abbrev ob41_2 (_ : Params) : Obj := { cls := Value.type "code", data := Data.fields #[Value.str (Str.ofString "ABCMeta") 222, Value.str (Str.ofString "ABCMeta") 223, Value.str (Str.ofString "/claim/cut.py") 224, Value.int 18 0, Value.int 0 0, Value.int 0 0, Value.int 0 0, Value.int 0 0, Value.ref 39, Value.bool false, Value.int 181 0, Value.ref 40, Value.none, Value.none, Value.none, Value.none, Value.int 225 0, Value.int 18 0, Value.str (Str.ofString "/claim/cut.py") 226] }
noncomputable abbrev ob42_2 (_ : Params) : Obj := { cls := Value.type "frame", slots := #[some (Value.ref 41), some (Value.ref 3), some (Value.ref 38), none, some (Value.str (Str.ofString "abc") 218), none, some (Value.ref 0)] }
noncomputable abbrev ob43_2 (_ : Params) : Obj := { cls := Value.type "tuple", data := Data.seq #[] }
noncomputable abbrev ob44_2 (_ : Params) : Obj := { cls := Value.none, data := Data.fields #[] }
noncomputable abbrev ob45_2 (_ : Params) : Obj := { cls := Value.type "tuple", data := Data.seq #[Value.str (Str.ofString "cls") 235, Value.str (Str.ofString "subclass") 236] }
noncomputable abbrev ob46_2 (_ : Params) : Obj := { cls := Value.type "tuple", data := Data.seq #[] }
noncomputable abbrev ob47_2 (_ : Params) : Obj := { cls := Value.none, data := Data.func { name := Str.ofString "register", qualname := Str.ofString "ABCMeta.register", params := hA (hIn 6 0), body := FuncBody.stmts (hB (hIn 6 0)), scope := hS (hIn 6 0), globals := 0, closure := [], defaults := Value.none, kwdefaults := Value.none } }
noncomputable abbrev ob48_2 (_ : Params) : Obj := { cls := Value.type "code", data := Data.fields #[Value.str (Str.ofString "register") 232, Value.str (Str.ofString "ABCMeta.register") 233, Value.str (Str.ofString "/claim/cut.py") 234, Value.int 20 0, Value.int 2 0, Value.int 0 0, Value.int 0 0, Value.int 3 0, Value.ref 43, Value.bool true, Value.int 181 0, Value.ref 44, Value.none, Value.ref 45, Value.ref 46, Value.ref 47, Value.int 237 0, Value.int 20 0, Value.str (Str.ofString "/claim/cut.py") 238] }
noncomputable abbrev ob49_2 (_ : Params) : Obj := { cls := Value.type "function", data := Data.func { name := Str.ofString "register", qualname := Str.ofString "ABCMeta.register", params := hA (hIn 6 0), body := FuncBody.stmts (hB (hIn 6 0)), scope := hS (hIn 6 0), globals := 3, closure := [], defaults := Value.none, kwdefaults := Value.none, pyModule := Value.str (Str.ofString "abc") 218, code := Value.ref 48 } }
noncomputable abbrev ob50_2 (_ : Params) : Obj := { cls := Value.type "tuple", data := Data.seq #[] }
noncomputable abbrev ob51_2 (P : Params) : Obj := { cls := Value.type "dict", data := Data.dict #[{ hash := PyData.keyHash P (Str.ofString "__module__"), key := Value.str (Str.ofString "__module__") 227, val := Value.str (Str.ofString "abc") 218 }, { hash := PyData.keyHash P (Str.ofString "__firstlineno__"), key := Value.str (Str.ofString "__firstlineno__") 231, val := Value.int 18 230 }, { hash := PyData.keyHash P (Str.ofString "register"), key := Value.str (Str.ofString "register") 239, val := Value.ref 49 }, { hash := PyData.keyHash P (Str.ofString "__static_attributes__"), key := Value.str (Str.ofString "__static_attributes__") 240, val := Value.ref 50 }, { hash := PyData.keyHash P (Str.ofString "__doc__"), key := Value.str (Str.ofString "__doc__") 241, val := Value.none }] 2 }
noncomputable abbrev ob52_2 (_ : Params) : Obj := { cls := Value.type "type", data := Data.cls { name := Str.ofString "ABCMeta", bases := [Value.type "type"], mro := [Value.ref 52, Value.type "type", Value.type "object"], ns := 51, qualname := Str.ofString "ABCMeta" }, slots := #[some (Value.ref 36), none, some (Value.str (Str.ofString "ABCMeta") 220), some (Value.str (Str.ofString "ABCMeta") 228), some (Value.builtin "type.__new__"), some (Value.bool true)] }
noncomputable abbrev ob53_2 (_ : Params) : Obj := { cls := Value.type "super", data := Data.fields #[Value.ref 52, Value.ref 52, Value.ref 52] }
noncomputable abbrev ob54_2 (_ : Params) : Obj := { cls := Value.type "builtin_function_or_method", data := Data.fields #[Value.builtin "object.__init_subclass__", Value.ref 52] }
noncomputable abbrev ob3_3 (P : Params) : Obj := { cls := Value.type "dict", data := Data.dict #[{ hash := PyData.keyHash P (Str.ofString "__name__"), key := Value.str (Str.ofString "__name__") 165, val := Value.str (Str.ofString "collections.abc") 244 }, { hash := PyData.keyHash P (Str.ofString "__doc__"), key := Value.str (Str.ofString "__doc__") 166, val := Value.none }, { hash := PyData.keyHash P (Str.ofString "__package__"), key := Value.str (Str.ofString "__package__") 167, val := Value.none }, { hash := PyData.keyHash P (Str.ofString "__loader__"), key := Value.str (Str.ofString "__loader__") 168, val := Value.builtin "__main__.__loader__#opaque" }, { hash := PyData.keyHash P (Str.ofString "__spec__"), key := Value.str (Str.ofString "__spec__") 169, val := Value.none }, { hash := PyData.keyHash P (Str.ofString "__annotations__"), key := Value.str (Str.ofString "__annotations__") 170, val := Value.ref 6 }, { hash := PyData.keyHash P (Str.ofString "__builtins__"), key := Value.str (Str.ofString "__builtins__") 171, val := Value.ref 4 }, { hash := PyData.keyHash P (Str.ofString "__file__"), key := Value.str (Str.ofString "__file__") 173, val := Value.str (Str.ofString "/claim/cut.py") 172 }, { hash := PyData.keyHash P (Str.ofString "__cached__"), key := Value.str (Str.ofString "__cached__") 174, val := Value.none }, { hash := PyData.keyHash P (Str.ofString "_wall"), key := Value.str (Str.ofString "_wall") 193, val := Value.ref 21 }, { hash := PyData.keyHash P (Str.ofString "_byteswap"), key := Value.str (Str.ofString "_byteswap") 206, val := Value.ref 28 }, { hash := PyData.keyHash P (Str.ofString "_plain_name"), key := Value.str (Str.ofString "_plain_name") 217, val := Value.ref 35 }, { hash := PyData.keyHash P (Str.ofString "ABCMeta"), key := Value.str (Str.ofString "ABCMeta") 243, val := Value.ref 52 }, { hash := PyData.keyHash P (Str.ofString "_ABCLike"), key := Value.str (Str.ofString "_ABCLike") 286, val := Value.ref 85 }] 14 }
noncomputable abbrev ob12_3 (_ : Params) : Obj := { cls := Value.none, data := Data.fields #[Value.int 1 0, Value.int 0 0, Value.ref 20, Value.int 5 0, Value.int 0 0, Value.ref 27, Value.int 12 0, Value.int 0 0, Value.ref 34, Value.int 18 0, Value.int 0 0, Value.ref 41, Value.int 23 0, Value.int 0 0, Value.ref 60] }
noncomputable abbrev ob52_3 (_ : Params) : Obj := { cls := Value.type "type", data := Data.cls { name := Str.ofString "ABCMeta", bases := [Value.type "type"], mro := [Value.ref 52, Value.type "type", Value.type "object"], ns := 51, qualname := Str.ofString "ABCMeta", subclasses := [Value.ref 85] }, slots := #[some (Value.ref 36), none, some (Value.str (Str.ofString "ABCMeta") 220), some (Value.str (Str.ofString "ABCMeta") 228), some (Value.builtin "type.__new__"), some (Value.bool true)] }
noncomputable abbrev ob55_3 (_ : Params) : Obj := { cls := Value.type "tuple", data := Data.seq #[Value.ref 52] }
noncomputable abbrev ob56_3 (_ : Params) : Obj := { cls := Value.type "builtin_function_or_method", data := Data.fields #[Value.builtin "type.__prepare__", Value.type "type"] }
noncomputable abbrev ob57_3 (P : Params) : Obj := { cls := Value.type "dict", data := Data.dict #[{ hash := PyData.keyHash P (Str.ofString "__module__"), key := Value.str (Str.ofString "__module__") 253, val := Value.str (Str.ofString "collections.abc") 244 }, { hash := PyData.keyHash P (Str.ofString "__qualname__"), key := Value.str (Str.ofString "__qualname__") 255, val := Value.str (Str.ofString "_ABCLike") 254 }, { hash := PyData.keyHash P (Str.ofString "__firstlineno__"), key := Value.str (Str.ofString "__firstlineno__") 257, val := Value.int 23 256 }, { hash := PyData.keyHash P (Str.ofString "__instancecheck__"), key := Value.str (Str.ofString "__instancecheck__") 266, val := Value.ref 68 }, { hash := PyData.keyHash P (Str.ofString "__subclasscheck__"), key := Value.str (Str.ofString "__subclasscheck__") 274, val := Value.ref 75 }, { hash := PyData.keyHash P (Str.ofString "register"), key := Value.str (Str.ofString "register") 282, val := Value.ref 82 }, { hash := PyData.keyHash P (Str.ofString "__static_attributes__"), key := Value.str (Str.ofString "__static_attributes__") 283, val := Value.ref 83 }] 7 }
noncomputable abbrev ob58_3 (_ : Params) : Obj := { cls := Value.type "tuple", data := Data.seq #[] }
noncomputable abbrev ob59_3 (_ : Params) : Obj := { cls := Value.none, data := Data.fields #[Value.int 25 0, Value.int 4 0, Value.ref 67, Value.int 31 0, Value.int 4 0, Value.ref 74, Value.int 36 0, Value.int 4 0, Value.ref 81] }
noncomputable abbrev ob60_3 (_ : Params) : Obj := { cls := Value.type "code", data := Data.fields #[Value.str (Str.ofString "_ABCLike") 248, Value.str (Str.ofString "_ABCLike") 249, Value.str (Str.ofString "/claim/cut.py") 250, Value.int 23 0, Value.int 0 0, Value.int 0 0, Value.int 0 0, Value.int 0 0, Value.ref 58, Value.bool false, Value.int 181 0, Value.ref 59, Value.none, Value.none, Value.none, Value.none, Value.int 251 0, Value.int 23 0, Value.str (Str.ofString "/claim/cut.py") 252] }
noncomputable abbrev ob61_3 (_ : Params) : Obj := { cls := Value.type "frame", slots := #[some (Value.ref 60), some (Value.ref 3), some (Value.ref 57), none, some (Value.str (Str.ofString "collections.abc") 244), none, some (Value.ref 0)] }
noncomputable abbrev ob62_3 (_ : Params) : Obj := { cls := Value.type "tuple", data := Data.seq #[] }
noncomputable abbrev ob63_3 (_ : Params) : Obj := { cls := Value.none, data := Data.fields #[] }
noncomputable abbrev ob64_3 (_ : Params) : Obj := { cls := Value.type "tuple", data := Data.seq #[Value.str (Str.ofString "cls") 261, Value.str (⟨#[105, 110, 115, 116, 97, 110, 99, 101]⟩) 262, Value.str (Str.ofString "C") 263] }
noncomputable abbrev ob65_3 (_ : Params) : Obj := { cls := Value.type "tuple", data := Data.seq #[] }
noncomputable abbrev ob66_3 (_ : Params) : Obj := { cls := Value.none, data := Data.func { name := Str.ofString "__instancecheck__", qualname := Str.ofString "_ABCLike.__instancecheck__", params := hA (hIn 8 0), body := FuncBody.stmts (hB (hIn 8 0)), scope := hS (hIn 8 0), globals := 0, closure := [], defaults := Value.none, kwdefaults := Value.none } }
noncomputable abbrev ob67_3 (_ : Params) : Obj := { cls := Value.type "code", data := Data.fields #[Value.str (Str.ofString "__instancecheck__") 258, Value.str (Str.ofString "_ABCLike.__instancecheck__") 259, Value.str (Str.ofString "/claim/cut.py") 260, Value.int 25 0, Value.int 2 0, Value.int 0 0, Value.int 0 0, Value.int 3 0, Value.ref 62, Value.bool true, Value.int 181 0, Value.ref 63, Value.none, Value.ref 64, Value.ref 65, Value.ref 66, Value.int 264 0, Value.int 25 0, Value.str (Str.ofString "/claim/cut.py") 265] }
noncomputable abbrev ob68_3 (_ : Params) : Obj := { cls := Value.type "function", data := Data.func { name := Str.ofString "__instancecheck__", qualname := Str.ofString "_ABCLike.__instancecheck__", params := hA (hIn 8 0), body := FuncBody.stmts (hB (hIn 8 0)), scope := hS (hIn 8 0), globals := 3, closure := [], defaults := Value.none, kwdefaults := Value.none, pyModule := Value.str (Str.ofString "collections.abc") 244, code := Value.ref 67 } }
noncomputable abbrev ob69_3 (_ : Params) : Obj := { cls := Value.type "tuple", data := Data.seq #[] }
noncomputable abbrev ob70_3 (_ : Params) : Obj := { cls := Value.none, data := Data.fields #[] }
noncomputable abbrev ob71_3 (_ : Params) : Obj := { cls := Value.type "tuple", data := Data.seq #[Value.str (Str.ofString "cls") 270, Value.str (Str.ofString "C") 271] }
noncomputable abbrev ob72_3 (_ : Params) : Obj := { cls := Value.type "tuple", data := Data.seq #[] }
noncomputable abbrev ob73_3 (_ : Params) : Obj := { cls := Value.none, data := Data.func { name := Str.ofString "__subclasscheck__", qualname := Str.ofString "_ABCLike.__subclasscheck__", params := hA (hIn 8 1), body := FuncBody.stmts (hB (hIn 8 1)), scope := hS (hIn 8 1), globals := 0, closure := [], defaults := Value.none, kwdefaults := Value.none } }
noncomputable abbrev ob74_3 (_ : Params) : Obj := { cls := Value.type "code", data := Data.fields #[Value.str (Str.ofString "__subclasscheck__") 267, Value.str (Str.ofString "_ABCLike.__subclasscheck__") 268, Value.str (Str.ofString "/claim/cut.py") 269, Value.int 31 0, Value.int 2 0, Value.int 0 0, Value.int 0 0, Value.int 3 0, Value.ref 69, Value.bool true, Value.int 181 0, Value.ref 70, Value.none, Value.ref 71, Value.ref 72, Value.ref 73, Value.int 272 0, Value.int 31 0, Value.str (Str.ofString "/claim/cut.py") 273] }
noncomputable abbrev ob75_3 (_ : Params) : Obj := { cls := Value.type "function", data := Data.func { name := Str.ofString "__subclasscheck__", qualname := Str.ofString "_ABCLike.__subclasscheck__", params := hA (hIn 8 1), body := FuncBody.stmts (hB (hIn 8 1)), scope := hS (hIn 8 1), globals := 3, closure := [], defaults := Value.none, kwdefaults := Value.none, pyModule := Value.str (Str.ofString "collections.abc") 244, code := Value.ref 74 } }
noncomputable abbrev ob76_3 (_ : Params) : Obj := { cls := Value.type "tuple", data := Data.seq #[] }
noncomputable abbrev ob77_3 (_ : Params) : Obj := { cls := Value.none, data := Data.fields #[] }
noncomputable abbrev ob78_3 (_ : Params) : Obj := { cls := Value.type "tuple", data := Data.seq #[Value.str (Str.ofString "cls") 278, Value.str (Str.ofString "subclass") 279] }
noncomputable abbrev ob79_3 (_ : Params) : Obj := { cls := Value.type "tuple", data := Data.seq #[] }
noncomputable abbrev ob80_3 (_ : Params) : Obj := { cls := Value.none, data := Data.func { name := Str.ofString "register", qualname := Str.ofString "_ABCLike.register", params := hA (hIn 8 2), body := FuncBody.stmts (hB (hIn 8 2)), scope := hS (hIn 8 2), globals := 0, closure := [], defaults := Value.none, kwdefaults := Value.none } }
noncomputable abbrev ob81_3 (_ : Params) : Obj := { cls := Value.type "code", data := Data.fields #[Value.str (Str.ofString "register") 275, Value.str (Str.ofString "_ABCLike.register") 276, Value.str (Str.ofString "/claim/cut.py") 277, Value.int 36 0, Value.int 2 0, Value.int 0 0, Value.int 0 0, Value.int 3 0, Value.ref 76, Value.bool true, Value.int 181 0, Value.ref 77, Value.none, Value.ref 78, Value.ref 79, Value.ref 80, Value.int 280 0, Value.int 36 0, Value.str (Str.ofString "/claim/cut.py") 281] }
noncomputable abbrev ob82_3 (_ : Params) : Obj := { cls := Value.type "function", data := Data.func { name := Str.ofString "register", qualname := Str.ofString "_ABCLike.register", params := hA (hIn 8 2), body := FuncBody.stmts (hB (hIn 8 2)), scope := hS (hIn 8 2), globals := 3, closure := [], defaults := Value.none, kwdefaults := Value.none, pyModule := Value.str (Str.ofString "collections.abc") 244, code := Value.ref 81 } }
noncomputable abbrev ob83_3 (_ : Params) : Obj := { cls := Value.type "tuple", data := Data.seq #[] }
noncomputable abbrev ob84_3 (P : Params) : Obj := { cls := Value.type "dict", data := Data.dict #[{ hash := PyData.keyHash P (Str.ofString "__module__"), key := Value.str (Str.ofString "__module__") 253, val := Value.str (Str.ofString "collections.abc") 244 }, { hash := PyData.keyHash P (Str.ofString "__firstlineno__"), key := Value.str (Str.ofString "__firstlineno__") 257, val := Value.int 23 256 }, { hash := PyData.keyHash P (Str.ofString "__instancecheck__"), key := Value.str (Str.ofString "__instancecheck__") 266, val := Value.ref 68 }, { hash := PyData.keyHash P (Str.ofString "__subclasscheck__"), key := Value.str (Str.ofString "__subclasscheck__") 274, val := Value.ref 75 }, { hash := PyData.keyHash P (Str.ofString "register"), key := Value.str (Str.ofString "register") 282, val := Value.ref 82 }, { hash := PyData.keyHash P (Str.ofString "__static_attributes__"), key := Value.str (Str.ofString "__static_attributes__") 283, val := Value.ref 83 }, { hash := PyData.keyHash P (Str.ofString "__doc__"), key := Value.str (Str.ofString "__doc__") 284, val := Value.none }] 2 }
noncomputable abbrev ob85_3 (_ : Params) : Obj := { cls := Value.type "type", data := Data.cls { name := Str.ofString "_ABCLike", bases := [Value.ref 52], mro := [Value.ref 85, Value.ref 52, Value.type "type", Value.type "object"], ns := 84, qualname := Str.ofString "_ABCLike" }, slots := #[some (Value.ref 55), none, some (Value.str (Str.ofString "_ABCLike") 246), some (Value.str (Str.ofString "_ABCLike") 254), some (Value.builtin "type.__new__"), some (Value.bool true)] }
noncomputable abbrev ob86_3 (_ : Params) : Obj := { cls := Value.type "super", data := Data.fields #[Value.ref 85, Value.ref 85, Value.ref 85] }
noncomputable abbrev ob87_3 (_ : Params) : Obj := { cls := Value.type "builtin_function_or_method", data := Data.fields #[Value.builtin "object.__init_subclass__", Value.ref 85] }
noncomputable abbrev ob3_4 (P : Params) : Obj := { cls := Value.type "dict", data := Data.dict #[{ hash := PyData.keyHash P (Str.ofString "__name__"), key := Value.str (Str.ofString "__name__") 165, val := Value.str (Str.ofString "cpy313.stat") 373 }, { hash := PyData.keyHash P (Str.ofString "__doc__"), key := Value.str (Str.ofString "__doc__") 166, val := Value.none }, { hash := PyData.keyHash P (Str.ofString "__package__"), key := Value.str (Str.ofString "__package__") 167, val := Value.none }, { hash := PyData.keyHash P (Str.ofString "__loader__"), key := Value.str (Str.ofString "__loader__") 168, val := Value.builtin "__main__.__loader__#opaque" }, { hash := PyData.keyHash P (Str.ofString "__spec__"), key := Value.str (Str.ofString "__spec__") 169, val := Value.none }, { hash := PyData.keyHash P (Str.ofString "__annotations__"), key := Value.str (Str.ofString "__annotations__") 170, val := Value.ref 6 }, { hash := PyData.keyHash P (Str.ofString "__builtins__"), key := Value.str (Str.ofString "__builtins__") 171, val := Value.ref 4 }, { hash := PyData.keyHash P (Str.ofString "__file__"), key := Value.str (Str.ofString "__file__") 173, val := Value.str (Str.ofString "/claim/cut.py") 172 }, { hash := PyData.keyHash P (Str.ofString "__cached__"), key := Value.str (Str.ofString "__cached__") 174, val := Value.none }, { hash := PyData.keyHash P (Str.ofString "_wall"), key := Value.str (Str.ofString "_wall") 193, val := Value.ref 21 }, { hash := PyData.keyHash P (Str.ofString "_byteswap"), key := Value.str (Str.ofString "_byteswap") 206, val := Value.ref 28 }, { hash := PyData.keyHash P (Str.ofString "_plain_name"), key := Value.str (Str.ofString "_plain_name") 217, val := Value.ref 35 }, { hash := PyData.keyHash P (Str.ofString "ABCMeta"), key := Value.str (Str.ofString "ABCMeta") 243, val := Value.ref 52 }, { hash := PyData.keyHash P (Str.ofString "_ABCLike"), key := Value.str (Str.ofString "_ABCLike") 286, val := Value.ref 85 }, { hash := PyData.keyHash P (Str.ofString "_abc_plain_meta"), key := Value.str (Str.ofString "_abc_plain_meta") 293, val := Value.ref 94 }, { hash := PyData.keyHash P (Str.ofString "fspath"), key := Value.str (Str.ofString "fspath") 305, val := Value.ref 101 }, { hash := PyData.keyHash P (Str.ofString "_check_arg_types"), key := Value.str (Str.ofString "_check_arg_types") 318, val := Value.ref 108 }, { hash := PyData.keyHash P (Str.ofString "_get_sep"), key := Value.str (Str.ofString "_get_sep") 327, val := Value.ref 115 }, { hash := PyData.keyHash P (Str.ofString "join"), key := Value.str (Str.ofString "join") 338, val := Value.ref 122 }, { hash := PyData.keyHash P (Str.ofString "splitroot"), key := Value.str (Str.ofString "splitroot") 347, val := Value.ref 129 }, { hash := PyData.keyHash P (Str.ofString "dirname"), key := Value.str (Str.ofString "dirname") 357, val := Value.ref 136 }, { hash := PyData.keyHash P (Str.ofString "normpath"), key := Value.str (Str.ofString "normpath") 372, val := Value.ref 143 }, { hash := PyData.keyHash P (Str.ofString "S_IMODE"), key := Value.str (Str.ofString "S_IMODE") 381, val := Value.ref 150 }] 23 }
noncomputable abbrev ob12_4 (_ : Params) : Obj := { cls := Value.none, data := Data.fields #[Value.int 1 0, Value.int 0 0, Value.ref 20, Value.int 5 0, Value.int 0 0, Value.ref 27, Value.int 12 0, Value.int 0 0, Value.ref 34, Value.int 18 0, Value.int 0 0, Value.ref 41, Value.int 23 0, Value.int 0 0, Value.ref 60, Value.int 38 0, Value.int 0 0, Value.ref 93, Value.int 42 0, Value.int 0 0, Value.ref 100, Value.int 59 0, Value.int 0 0, Value.ref 107, Value.int 71 0, Value.int 0 0, Value.ref 114, Value.int 76 0, Value.int 0 0, Value.ref 121, Value.int 93 0, Value.int 0 0, Value.ref 128, Value.int 107 0, Value.int 0 0, Value.ref 135, Value.int 115 0, Value.int 0 0, Value.ref 142, Value.int 141 0, Value.int 0 0, Value.ref 149] }
noncomputable abbrev ob88_4 (_ : Params) : Obj := { cls := Value.type "tuple", data := Data.seq #[] }
noncomputable abbrev ob89_4 (_ : Params) : Obj := { cls := Value.none, data := Data.fields #[] }
noncomputable abbrev ob90_4 (_ : Params) : Obj := { cls := Value.type "tuple", data := Data.seq #[Value.str (Str.ofString "C") 290] }
noncomputable abbrev ob91_4 (_ : Params) : Obj := { cls := Value.type "tuple", data := Data.seq #[] }
noncomputable abbrev ob92_4 (_ : Params) : Obj := { cls := Value.none, data := Data.func { name := Str.ofString "_abc_plain_meta", qualname := Str.ofString "_abc_plain_meta", params := hA (hSt 9), body := FuncBody.stmts (hB (hSt 9)), scope := hS (hSt 9), globals := 0, closure := [], defaults := Value.none, kwdefaults := Value.none } }
noncomputable abbrev ob93_4 (_ : Params) : Obj := { cls := Value.type "code", data := Data.fields #[Value.str (Str.ofString "_abc_plain_meta") 287, Value.str (Str.ofString "_abc_plain_meta") 288, Value.str (Str.ofString "/claim/cut.py") 289, Value.int 38 0, Value.int 1 0, Value.int 0 0, Value.int 0 0, Value.int 3 0, Value.ref 88, Value.bool true, Value.int 181 0, Value.ref 89, Value.none, Value.ref 90, Value.ref 91, Value.ref 92, Value.int 291 0, Value.int 38 0, Value.str (Str.ofString "/claim/cut.py") 292] }
noncomputable abbrev ob94_4 (_ : Params) : Obj := { cls := Value.type "function", data := Data.func { name := Str.ofString "_abc_plain_meta", qualname := Str.ofString "_abc_plain_meta", params := hA (hSt 9), body := FuncBody.stmts (hB (hSt 9)), scope := hS (hSt 9), globals := 3, closure := [], defaults := Value.none, kwdefaults := Value.none, pyModule := Value.str (Str.ofString "collections.abc") 244, code := Value.ref 93 } }
noncomputable abbrev ob95_4 (_ : Params) : Obj := { cls := Value.type "tuple", data := Data.seq #[] }
noncomputable abbrev ob96_4 (_ : Params) : Obj := { cls := Value.none, data := Data.fields #[] }
noncomputable abbrev ob97_4 (_ : Params) : Obj := { cls := Value.type "tuple", data := Data.seq #[Value.str (Str.ofString "path") 299, Value.str (Str.ofString "kind") 300, Value.str (Str.ofString "hook") 301, Value.str (Str.ofString "given") 302] }
noncomputable abbrev ob98_4 (_ : Params) : Obj := { cls := Value.type "tuple", data := Data.seq #[] }
noncomputable abbrev ob99_4 (_ : Params) : Obj := { cls := Value.none, data := Data.func { name := Str.ofString "fspath", qualname := Str.ofString "fspath", params := hA (hSt 11), body := FuncBody.stmts (hB (hSt 11)), scope := hS (hSt 11), globals := 0, closure := [], defaults := Value.none, kwdefaults := Value.none } }
noncomputable abbrev ob100_4 (_ : Params) : Obj := { cls := Value.type "code", data := Data.fields #[Value.str (Str.ofString "fspath") 296, Value.str (Str.ofString "fspath") 297, Value.str (Str.ofString "/claim/cut.py") 298, Value.int 42 0, Value.int 1 0, Value.int 0 0, Value.int 0 0, Value.int 3 0, Value.ref 95, Value.bool true, Value.int 181 0, Value.ref 96, Value.none, Value.ref 97, Value.ref 98, Value.ref 99, Value.int 303 0, Value.int 42 0, Value.str (Str.ofString "/claim/cut.py") 304] }
noncomputable abbrev ob101_4 (_ : Params) : Obj := { cls := Value.type "function", data := Data.func { name := Str.ofString "fspath", qualname := Str.ofString "fspath", params := hA (hSt 11), body := FuncBody.stmts (hB (hSt 11)), scope := hS (hSt 11), globals := 3, closure := [], defaults := Value.none, kwdefaults := Value.none, pyModule := Value.str (Str.ofString "os") 294, code := Value.ref 100 } }
noncomputable abbrev ob102_4 (_ : Params) : Obj := { cls := Value.type "tuple", data := Data.seq #[] }
noncomputable abbrev ob103_4 (_ : Params) : Obj := { cls := Value.none, data := Data.fields #[] }
noncomputable abbrev ob104_4 (_ : Params) : Obj := { cls := Value.type "tuple", data := Data.seq #[Value.str (Str.ofString "funcname") 311, Value.str (Str.ofString "args") 312, Value.str (Str.ofString "hasstr") 313, Value.str (Str.ofString "hasbytes") 314, Value.str (Str.ofString "s") 315] }
noncomputable abbrev ob105_4 (_ : Params) : Obj := { cls := Value.type "tuple", data := Data.seq #[] }
noncomputable abbrev ob106_4 (_ : Params) : Obj := { cls := Value.none, data := Data.func { name := Str.ofString "_check_arg_types", qualname := Str.ofString "_check_arg_types", params := hA (hSt 13), body := FuncBody.stmts (hB (hSt 13)), scope := hS (hSt 13), globals := 0, closure := [], defaults := Value.none, kwdefaults := Value.none } }
noncomputable abbrev ob107_4 (_ : Params) : Obj := { cls := Value.type "code", data := Data.fields #[Value.str (Str.ofString "_check_arg_types") 308, Value.str (Str.ofString "_check_arg_types") 309, Value.str (Str.ofString "/claim/cut.py") 310, Value.int 59 0, Value.int 1 0, Value.int 0 0, Value.int 0 0, Value.int 7 0, Value.ref 102, Value.bool true, Value.int 181 0, Value.ref 103, Value.none, Value.ref 104, Value.ref 105, Value.ref 106, Value.int 316 0, Value.int 59 0, Value.str (Str.ofString "/claim/cut.py") 317] }
noncomputable abbrev ob108_4 (_ : Params) : Obj := { cls := Value.type "function", data := Data.func { name := Str.ofString "_check_arg_types", qualname := Str.ofString "_check_arg_types", params := hA (hSt 13), body := FuncBody.stmts (hB (hSt 13)), scope := hS (hSt 13), globals := 3, closure := [], defaults := Value.none, kwdefaults := Value.none, pyModule := Value.str (Str.ofString "cpy313.genericpath") 306, code := Value.ref 107 } }
noncomputable abbrev ob109_4 (_ : Params) : Obj := { cls := Value.type "tuple", data := Data.seq #[] }
noncomputable abbrev ob110_4 (_ : Params) : Obj := { cls := Value.none, data := Data.fields #[] }
noncomputable abbrev ob111_4 (_ : Params) : Obj := { cls := Value.type "tuple", data := Data.seq #[Value.str (Str.ofString "path") 324] }
noncomputable abbrev ob112_4 (_ : Params) : Obj := { cls := Value.type "tuple", data := Data.seq #[] }
noncomputable abbrev ob113_4 (_ : Params) : Obj := { cls := Value.none, data := Data.func { name := Str.ofString "_get_sep", qualname := Str.ofString "_get_sep", params := hA (hSt 15), body := FuncBody.stmts (hB (hSt 15)), scope := hS (hSt 15), globals := 0, closure := [], defaults := Value.none, kwdefaults := Value.none } }
noncomputable abbrev ob114_4 (_ : Params) : Obj := { cls := Value.type "code", data := Data.fields #[Value.str (Str.ofString "_get_sep") 321, Value.str (Str.ofString "_get_sep") 322, Value.str (Str.ofString "/claim/cut.py") 323, Value.int 71 0, Value.int 1 0, Value.int 0 0, Value.int 0 0, Value.int 3 0, Value.ref 109, Value.bool true, Value.int 181 0, Value.ref 110, Value.none, Value.ref 111, Value.ref 112, Value.ref 113, Value.int 325 0, Value.int 71 0, Value.str (Str.ofString "/claim/cut.py") 326] }
noncomputable abbrev ob115_4 (_ : Params) : Obj := { cls := Value.type "function", data := Data.func { name := Str.ofString "_get_sep", qualname := Str.ofString "_get_sep", params := hA (hSt 15), body := FuncBody.stmts (hB (hSt 15)), scope := hS (hSt 15), globals := 3, closure := [], defaults := Value.none, kwdefaults := Value.none, pyModule := Value.str (Str.ofString "cpy313.posixpath") 319, code := Value.ref 114 } }
noncomputable abbrev ob116_4 (_ : Params) : Obj := { cls := Value.type "tuple", data := Data.seq #[] }
noncomputable abbrev ob117_4 (_ : Params) : Obj := { cls := Value.none, data := Data.fields #[] }
noncomputable abbrev ob118_4 (_ : Params) : Obj := { cls := Value.type "tuple", data := Data.seq #[Value.str (Str.ofString "a") 331, Value.str (Str.ofString "p") 332, Value.str (Str.ofString "sep") 333, Value.str (Str.ofString "path") 334, Value.str (Str.ofString "b") 335] }
noncomputable abbrev ob119_4 (_ : Params) : Obj := { cls := Value.type "tuple", data := Data.seq #[] }
noncomputable abbrev ob120_4 (_ : Params) : Obj := { cls := Value.none, data := Data.func { name := Str.ofString "join", qualname := Str.ofString "join", params := hA (hSt 16), body := FuncBody.stmts (hB (hSt 16)), scope := hS (hSt 16), globals := 0, closure := [], defaults := Value.none, kwdefaults := Value.none } }
noncomputable abbrev ob121_4 (_ : Params) : Obj := { cls := Value.type "code", data := Data.fields #[Value.str (Str.ofString "join") 328, Value.str (Str.ofString "join") 329, Value.str (Str.ofString "/claim/cut.py") 330, Value.int 76 0, Value.int 1 0, Value.int 0 0, Value.int 0 0, Value.int 7 0, Value.ref 116, Value.bool true, Value.int 181 0, Value.ref 117, Value.none, Value.ref 118, Value.ref 119, Value.ref 120, Value.int 336 0, Value.int 76 0, Value.str (Str.ofString "/claim/cut.py") 337] }
noncomputable abbrev ob122_4 (_ : Params) : Obj := { cls := Value.type "function", data := Data.func { name := Str.ofString "join", qualname := Str.ofString "join", params := hA (hSt 16), body := FuncBody.stmts (hB (hSt 16)), scope := hS (hSt 16), globals := 3, closure := [], defaults := Value.none, kwdefaults := Value.none, pyModule := Value.str (Str.ofString "cpy313.posixpath") 319, code := Value.ref 121 } }
noncomputable abbrev ob123_4 (_ : Params) : Obj := { cls := Value.type "tuple", data := Data.seq #[] }
noncomputable abbrev ob124_4 (_ : Params) : Obj := { cls := Value.none, data := Data.fields #[] }
noncomputable abbrev ob125_4 (_ : Params) : Obj := { cls := Value.type "tuple", data := Data.seq #[Value.str (Str.ofString "p") 342, Value.str (Str.ofString "sep") 343, Value.str (Str.ofString "empty") 344] }
noncomputable abbrev ob126_4 (_ : Params) : Obj := { cls := Value.type "tuple", data := Data.seq #[] }
noncomputable abbrev ob127_4 (_ : Params) : Obj := { cls := Value.none, data := Data.func { name := Str.ofString "splitroot", qualname := Str.ofString "splitroot", params := hA (hSt 17), body := FuncBody.stmts (hB (hSt 17)), scope := hS (hSt 17), globals := 0, closure := [], defaults := Value.none, kwdefaults := Value.none } }
noncomputable abbrev ob128_4 (_ : Params) : Obj := { cls := Value.type "code", data := Data.fields #[Value.str (Str.ofString "splitroot") 339, Value.str (Str.ofString "splitroot") 340, Value.str (Str.ofString "/claim/cut.py") 341, Value.int 93 0, Value.int 1 0, Value.int 0 0, Value.int 0 0, Value.int 3 0, Value.ref 123, Value.bool true, Value.int 181 0, Value.ref 124, Value.none, Value.ref 125, Value.ref 126, Value.ref 127, Value.int 345 0, Value.int 93 0, Value.str (Str.ofString "/claim/cut.py") 346] }
noncomputable abbrev ob129_4 (_ : Params) : Obj := { cls := Value.type "function", data := Data.func { name := Str.ofString "splitroot", qualname := Str.ofString "splitroot", params := hA (hSt 17), body := FuncBody.stmts (hB (hSt 17)), scope := hS (hSt 17), globals := 3, closure := [], defaults := Value.none, kwdefaults := Value.none, pyModule := Value.str (Str.ofString "cpy313.posixpath") 319, code := Value.ref 128 } }
noncomputable abbrev ob130_4 (_ : Params) : Obj := { cls := Value.type "tuple", data := Data.seq #[] }
noncomputable abbrev ob131_4 (_ : Params) : Obj := { cls := Value.none, data := Data.fields #[] }
noncomputable abbrev ob132_4 (_ : Params) : Obj := { cls := Value.type "tuple", data := Data.seq #[Value.str (Str.ofString "p") 351, Value.str (Str.ofString "sep") 352, Value.str (Str.ofString "i") 353, Value.str (Str.ofString "head") 354] }
noncomputable abbrev ob133_4 (_ : Params) : Obj := { cls := Value.type "tuple", data := Data.seq #[] }
noncomputable abbrev ob134_4 (_ : Params) : Obj := { cls := Value.none, data := Data.func { name := Str.ofString "dirname", qualname := Str.ofString "dirname", params := hA (hSt 18), body := FuncBody.stmts (hB (hSt 18)), scope := hS (hSt 18), globals := 0, closure := [], defaults := Value.none, kwdefaults := Value.none } }
noncomputable abbrev ob135_4 (_ : Params) : Obj := { cls := Value.type "code", data := Data.fields #[Value.str (Str.ofString "dirname") 348, Value.str (Str.ofString "dirname") 349, Value.str (Str.ofString "/claim/cut.py") 350, Value.int 107 0, Value.int 1 0, Value.int 0 0, Value.int 0 0, Value.int 3 0, Value.ref 130, Value.bool true, Value.int 181 0, Value.ref 131, Value.none, Value.ref 132, Value.ref 133, Value.ref 134, Value.int 355 0, Value.int 107 0, Value.str (Str.ofString "/claim/cut.py") 356] }
noncomputable abbrev ob136_4 (_ : Params) : Obj := { cls := Value.type "function", data := Data.func { name := Str.ofString "dirname", qualname := Str.ofString "dirname", params := hA (hSt 18), body := FuncBody.stmts (hB (hSt 18)), scope := hS (hSt 18), globals := 3, closure := [], defaults := Value.none, kwdefaults := Value.none, pyModule := Value.str (Str.ofString "cpy313.posixpath") 319, code := Value.ref 135 } }
noncomputable abbrev ob137_4 (_ : Params) : Obj := { cls := Value.type "tuple", data := Data.seq #[] }
noncomputable abbrev ob138_4 (_ : Params) : Obj := { cls := Value.none, data := Data.fields #[] }
noncomputable abbrev ob139_4 (_ : Params) : Obj := { cls := Value.type "tuple", data := Data.seq #[Value.str (Str.ofString "path") 361, Value.str (Str.ofString "sep") 362, Value.str (Str.ofString "dot") 363, Value.str (Str.ofString "dotdot") 364, Value.str (Str.ofString "_") 365, Value.str (Str.ofString "initial_slashes") 366, Value.str (Str.ofString "comps") 367, Value.str (Str.ofString "new_comps") 368, Value.str (Str.ofString "comp") 369] }
noncomputable abbrev ob140_4 (_ : Params) : Obj := { cls := Value.type "tuple", data := Data.seq #[] }
noncomputable abbrev ob141_4 (_ : Params) : Obj := { cls := Value.none, data := Data.func { name := Str.ofString "normpath", qualname := Str.ofString "normpath", params := hA (hSt 19), body := FuncBody.stmts (hB (hSt 19)), scope := hS (hSt 19), globals := 0, closure := [], defaults := Value.none, kwdefaults := Value.none } }
noncomputable abbrev ob142_4 (_ : Params) : Obj := { cls := Value.type "code", data := Data.fields #[Value.str (Str.ofString "normpath") 358, Value.str (Str.ofString "normpath") 359, Value.str (Str.ofString "/claim/cut.py") 360, Value.int 115 0, Value.int 1 0, Value.int 0 0, Value.int 0 0, Value.int 3 0, Value.ref 137, Value.bool true, Value.int 181 0, Value.ref 138, Value.none, Value.ref 139, Value.ref 140, Value.ref 141, Value.int 370 0, Value.int 115 0, Value.str (Str.ofString "/claim/cut.py") 371] }
noncomputable abbrev ob143_4 (_ : Params) : Obj := { cls := Value.type "function", data := Data.func { name := Str.ofString "normpath", qualname := Str.ofString "normpath", params := hA (hSt 19), body := FuncBody.stmts (hB (hSt 19)), scope := hS (hSt 19), globals := 3, closure := [], defaults := Value.none, kwdefaults := Value.none, pyModule := Value.str (Str.ofString "cpy313.posixpath") 319, code := Value.ref 142 } }
noncomputable abbrev ob144_4 (_ : Params) : Obj := { cls := Value.type "tuple", data := Data.seq #[] }
noncomputable abbrev ob145_4 (_ : Params) : Obj := { cls := Value.none, data := Data.fields #[] }
noncomputable abbrev ob146_4 (_ : Params) : Obj := { cls := Value.type "tuple", data := Data.seq #[Value.str (Str.ofString "mode") 378] }
noncomputable abbrev ob147_4 (_ : Params) : Obj := { cls := Value.type "tuple", data := Data.seq #[] }
noncomputable abbrev ob148_4 (_ : Params) : Obj := { cls := Value.none, data := Data.func { name := Str.ofString "S_IMODE", qualname := Str.ofString "S_IMODE", params := hA (hSt 21), body := FuncBody.stmts (hB (hSt 21)), scope := hS (hSt 21), globals := 0, closure := [], defaults := Value.none, kwdefaults := Value.none } }
noncomputable abbrev ob149_4 (_ : Params) : Obj := { cls := Value.type "code", data := Data.fields #[Value.str (Str.ofString "S_IMODE") 375, Value.str (Str.ofString "S_IMODE") 376, Value.str (Str.ofString "/claim/cut.py") 377, Value.int 141 0, Value.int 1 0, Value.int 0 0, Value.int 0 0, Value.int 3 0, Value.ref 144, Value.bool true, Value.int 181 0, Value.ref 145, Value.none, Value.ref 146, Value.ref 147, Value.ref 148, Value.int 379 0, Value.int 141 0, Value.str (Str.ofString "/claim/cut.py") 380] }
noncomputable abbrev ob150_4 (_ : Params) : Obj := { cls := Value.type "function", data := Data.func { name := Str.ofString "S_IMODE", qualname := Str.ofString "S_IMODE", params := hA (hSt 21), body := FuncBody.stmts (hB (hSt 21)), scope := hS (hSt 21), globals := 3, closure := [], defaults := Value.none, kwdefaults := Value.none, pyModule := Value.str (Str.ofString "cpy313.stat") 373, code := Value.ref 149 } }
noncomputable abbrev ob3_5 (P : Params) : Obj := { cls := Value.type "dict", data := Data.dict #[{ hash := PyData.keyHash P (Str.ofString "__name__"), key := Value.str (Str.ofString "__name__") 165, val := Value.str (Str.ofString "cpy313.stat") 373 }, { hash := PyData.keyHash P (Str.ofString "__doc__"), key := Value.str (Str.ofString "__doc__") 166, val := Value.none }, { hash := PyData.keyHash P (Str.ofString "__package__"), key := Value.str (Str.ofString "__package__") 167, val := Value.none }, { hash := PyData.keyHash P (Str.ofString "__loader__"), key := Value.str (Str.ofString "__loader__") 168, val := Value.builtin "__main__.__loader__#opaque" }, { hash := PyData.keyHash P (Str.ofString "__spec__"), key := Value.str (Str.ofString "__spec__") 169, val := Value.none }, { hash := PyData.keyHash P (Str.ofString "__annotations__"), key := Value.str (Str.ofString "__annotations__") 170, val := Value.ref 6 }, { hash := PyData.keyHash P (Str.ofString "__builtins__"), key := Value.str (Str.ofString "__builtins__") 171, val := Value.ref 4 }, { hash := PyData.keyHash P (Str.ofString "__file__"), key := Value.str (Str.ofString "__file__") 173, val := Value.str (Str.ofString "/claim/cut.py") 172 }, { hash := PyData.keyHash P (Str.ofString "__cached__"), key := Value.str (Str.ofString "__cached__") 174, val := Value.none }, { hash := PyData.keyHash P (Str.ofString "_wall"), key := Value.str (Str.ofString "_wall") 193, val := Value.ref 21 }, { hash := PyData.keyHash P (Str.ofString "_byteswap"), key := Value.str (Str.ofString "_byteswap") 206, val := Value.ref 28 }, { hash := PyData.keyHash P (Str.ofString "_plain_name"), key := Value.str (Str.ofString "_plain_name") 217, val := Value.ref 35 }, { hash := PyData.keyHash P (Str.ofString "ABCMeta"), key := Value.str (Str.ofString "ABCMeta") 243, val := Value.ref 52 }, { hash := PyData.keyHash P (Str.ofString "_ABCLike"), key := Value.str (Str.ofString "_ABCLike") 286, val := Value.ref 85 }, { hash := PyData.keyHash P (Str.ofString "_abc_plain_meta"), key := Value.str (Str.ofString "_abc_plain_meta") 293, val := Value.ref 94 }, { hash := PyData.keyHash P (Str.ofString "fspath"), key := Value.str (Str.ofString "fspath") 305, val := Value.ref 101 }, { hash := PyData.keyHash P (Str.ofString "_check_arg_types"), key := Value.str (Str.ofString "_check_arg_types") 318, val := Value.ref 108 }, { hash := PyData.keyHash P (Str.ofString "_get_sep"), key := Value.str (Str.ofString "_get_sep") 327, val := Value.ref 115 }, { hash := PyData.keyHash P (Str.ofString "join"), key := Value.str (Str.ofString "join") 338, val := Value.ref 122 }, { hash := PyData.keyHash P (Str.ofString "splitroot"), key := Value.str (Str.ofString "splitroot") 347, val := Value.ref 129 }, { hash := PyData.keyHash P (Str.ofString "dirname"), key := Value.str (Str.ofString "dirname") 357, val := Value.ref 136 }, { hash := PyData.keyHash P (Str.ofString "normpath"), key := Value.str (Str.ofString "normpath") 372, val := Value.ref 143 }, { hash := PyData.keyHash P (Str.ofString "S_IMODE"), key := Value.str (Str.ofString "S_IMODE") 381, val := Value.ref 150 }, { hash := PyData.keyHash P (Str.ofString "S_IFMT"), key := Value.str (Str.ofString "S_IFMT") 388, val := Value.ref 157 }, { hash := PyData.keyHash P (Str.ofString "S_IFDIR"), key := Value.str (Str.ofString "S_IFDIR") 390, val := Value.int 16384 389 }, { hash := PyData.keyHash P (Str.ofString "S_IFCHR"), key := Value.str (Str.ofString "S_IFCHR") 392, val := Value.int 8192 391 }, { hash := PyData.keyHash P (Str.ofString "S_IFBLK"), key := Value.str (Str.ofString "S_IFBLK") 394, val := Value.int 24576 393 }, { hash := PyData.keyHash P (Str.ofString "S_IFREG"), key := Value.str (Str.ofString "S_IFREG") 396, val := Value.int 32768 395 }, { hash := PyData.keyHash P (Str.ofString "S_IFIFO"), key := Value.str (Str.ofString "S_IFIFO") 398, val := Value.int 4096 397 }, { hash := PyData.keyHash P (Str.ofString "S_IFLNK"), key := Value.str (Str.ofString "S_IFLNK") 400, val := Value.int 40960 399 }, { hash := PyData.keyHash P (Str.ofString "S_IFSOCK"), key := Value.str (Str.ofString "S_IFSOCK") 402, val := Value.int 49152 401 }, { hash := PyData.keyHash P (Str.ofString "S_ISDIR"), key := Value.str (Str.ofString "S_ISDIR") 409, val := Value.ref 164 }, { hash := PyData.keyHash P (Str.ofString "S_ISREG"), key := Value.str (Str.ofString "S_ISREG") 416, val := Value.ref 171 }, { hash := PyData.keyHash P (Str.ofString "S_ISLNK"), key := Value.str (Str.ofString "S_ISLNK") 423, val := Value.ref 178 }, { hash := PyData.keyHash P (Str.ofString "S_ISUID"), key := Value.str (Str.ofString "S_ISUID") 425, val := Value.int 2048 424 }, { hash := PyData.keyHash P (Str.ofString "S_ISGID"), key := Value.str (Str.ofString "S_ISGID") 427, val := Value.int 1024 426 }, { hash := PyData.keyHash P (Str.ofString "S_ISVTX"), key := Value.str (Str.ofString "S_ISVTX") 429, val := Value.int 512 428 }, { hash := PyData.keyHash P (Str.ofString "S_IRUSR"), key := Value.str (Str.ofString "S_IRUSR") 431, val := Value.int 256 430 }, { hash := PyData.keyHash P (Str.ofString "S_IWUSR"), key := Value.str (Str.ofString "S_IWUSR") 433, val := Value.int 128 432 }, { hash := PyData.keyHash P (Str.ofString "S_IXUSR"), key := Value.str (Str.ofString "S_IXUSR") 435, val := Value.int 64 434 }, { hash := PyData.keyHash P (Str.ofString "S_IRGRP"), key := Value.str (Str.ofString "S_IRGRP") 437, val := Value.int 32 436 }, { hash := PyData.keyHash P (Str.ofString "S_IWGRP"), key := Value.str (Str.ofString "S_IWGRP") 439, val := Value.int 16 438 }, { hash := PyData.keyHash P (Str.ofString "S_IXGRP"), key := Value.str (Str.ofString "S_IXGRP") 441, val := Value.int 8 440 }, { hash := PyData.keyHash P (Str.ofString "S_IROTH"), key := Value.str (Str.ofString "S_IROTH") 443, val := Value.int 4 442 }, { hash := PyData.keyHash P (Str.ofString "S_IWOTH"), key := Value.str (Str.ofString "S_IWOTH") 445, val := Value.int 2 444 }, { hash := PyData.keyHash P (Str.ofString "S_IXOTH"), key := Value.str (Str.ofString "S_IXOTH") 447, val := Value.int 1 446 }] 46 }
noncomputable abbrev ob12_5 (_ : Params) : Obj := { cls := Value.none, data := Data.fields #[Value.int 1 0, Value.int 0 0, Value.ref 20, Value.int 5 0, Value.int 0 0, Value.ref 27, Value.int 12 0, Value.int 0 0, Value.ref 34, Value.int 18 0, Value.int 0 0, Value.ref 41, Value.int 23 0, Value.int 0 0, Value.ref 60, Value.int 38 0, Value.int 0 0, Value.ref 93, Value.int 42 0, Value.int 0 0, Value.ref 100, Value.int 59 0, Value.int 0 0, Value.ref 107, Value.int 71 0, Value.int 0 0, Value.ref 114, Value.int 76 0, Value.int 0 0, Value.ref 121, Value.int 93 0, Value.int 0 0, Value.ref 128, Value.int 107 0, Value.int 0 0, Value.ref 135, Value.int 115 0, Value.int 0 0, Value.ref 142, Value.int 141 0, Value.int 0 0, Value.ref 149, Value.int 143 0, Value.int 0 0, Value.ref 156, Value.int 152 0, Value.int 0 0, Value.ref 163, Value.int 154 0, Value.int 0 0, Value.ref 170, Value.int 156 0, Value.int 0 0, Value.ref 177] }
noncomputable abbrev ob151_5 (_ : Params) : Obj := { cls := Value.type "tuple", data := Data.seq #[] }
noncomputable abbrev ob152_5 (_ : Params) : Obj := { cls := Value.none, data := Data.fields #[] }
noncomputable abbrev ob153_5 (_ : Params) : Obj := { cls := Value.type "tuple", data := Data.seq #[Value.str (Str.ofString "mode") 385] }
noncomputable abbrev ob154_5 (_ : Params) : Obj := { cls := Value.type "tuple", data := Data.seq #[] }
noncomputable abbrev ob155_5 (_ : Params) : Obj := { cls := Value.none, data := Data.func { name := Str.ofString "S_IFMT", qualname := Str.ofString "S_IFMT", params := hA (hSt 22), body := FuncBody.stmts (hB (hSt 22)), scope := hS (hSt 22), globals := 0, closure := [], defaults := Value.none, kwdefaults := Value.none } }
noncomputable abbrev ob156_5 (_ : Params) : Obj := { cls := Value.type "code", data := Data.fields #[Value.str (Str.ofString "S_IFMT") 382, Value.str (Str.ofString "S_IFMT") 383, Value.str (Str.ofString "/claim/cut.py") 384, Value.int 143 0, Value.int 1 0, Value.int 0 0, Value.int 0 0, Value.int 3 0, Value.ref 151, Value.bool true, Value.int 181 0, Value.ref 152, Value.none, Value.ref 153, Value.ref 154, Value.ref 155, Value.int 386 0, Value.int 143 0, Value.str (Str.ofString "/claim/cut.py") 387] }
noncomputable abbrev ob157_5 (_ : Params) : Obj := { cls := Value.type "function", data := Data.func { name := Str.ofString "S_IFMT", qualname := Str.ofString "S_IFMT", params := hA (hSt 22), body := FuncBody.stmts (hB (hSt 22)), scope := hS (hSt 22), globals := 3, closure := [], defaults := Value.none, kwdefaults := Value.none, pyModule := Value.str (Str.ofString "cpy313.stat") 373, code := Value.ref 156 } }
noncomputable abbrev ob158_5 (_ : Params) : Obj := { cls := Value.type "tuple", data := Data.seq #[] }
noncomputable abbrev ob159_5 (_ : Params) : Obj := { cls := Value.none, data := Data.fields #[] }
noncomputable abbrev ob160_5 (_ : Params) : Obj := { cls := Value.type "tuple", data := Data.seq #[Value.str (Str.ofString "mode") 406] }
noncomputable abbrev ob161_5 (_ : Params) : Obj := { cls := Value.type "tuple", data := Data.seq #[] }
noncomputable abbrev ob162_5 (_ : Params) : Obj := { cls := Value.none, data := Data.func { name := Str.ofString "S_ISDIR", qualname := Str.ofString "S_ISDIR", params := hA (hSt 30), body := FuncBody.stmts (hB (hSt 30)), scope := hS (hSt 30), globals := 0, closure := [], defaults := Value.none, kwdefaults := Value.none } }
noncomputable abbrev ob163_5 (_ : Params) : Obj := { cls := Value.type "code", data := Data.fields #[Value.str (Str.ofString "S_ISDIR") 403, Value.str (Str.ofString "S_ISDIR") 404, Value.str (Str.ofString "/claim/cut.py") 405, Value.int 152 0, Value.int 1 0, Value.int 0 0, Value.int 0 0, Value.int 3 0, Value.ref 158, Value.bool true, Value.int 181 0, Value.ref 159, Value.none, Value.ref 160, Value.ref 161, Value.ref 162, Value.int 407 0, Value.int 152 0, Value.str (Str.ofString "/claim/cut.py") 408] }
noncomputable abbrev ob164_5 (_ : Params) : Obj := { cls := Value.type "function", data := Data.func { name := Str.ofString "S_ISDIR", qualname := Str.ofString "S_ISDIR", params := hA (hSt 30), body := FuncBody.stmts (hB (hSt 30)), scope := hS (hSt 30), globals := 3, closure := [], defaults := Value.none, kwdefaults := Value.none, pyModule := Value.str (Str.ofString "cpy313.stat") 373, code := Value.ref 163 } }
noncomputable abbrev ob165_5 (_ : Params) : Obj := { cls := Value.type "tuple", data := Data.seq #[] }
noncomputable abbrev ob166_5 (_ : Params) : Obj := { cls := Value.none, data := Data.fields #[] }
noncomputable abbrev ob167_5 (_ : Params) : Obj := { cls := Value.type "tuple", data := Data.seq #[Value.str (Str.ofString "mode") 413] }
noncomputable abbrev ob168_5 (_ : Params) : Obj := { cls := Value.type "tuple", data := Data.seq #[] }
noncomputable abbrev ob169_5 (_ : Params) : Obj := { cls := Value.none, data := Data.func { name := Str.ofString "S_ISREG", qualname := Str.ofString "S_ISREG", params := hA (hSt 31), body := FuncBody.stmts (hB (hSt 31)), scope := hS (hSt 31), globals := 0, closure := [], defaults := Value.none, kwdefaults := Value.none } }
noncomputable abbrev ob170_5 (_ : Params) : Obj := { cls := Value.type "code", data := Data.fields #[Value.str (Str.ofString "S_ISREG") 410, Value.str (Str.ofString "S_ISREG") 411, Value.str (Str.ofString "/claim/cut.py") 412, Value.int 154 0, Value.int 1 0, Value.int 0 0, Value.int 0 0, Value.int 3 0, Value.ref 165, Value.bool true, Value.int 181 0, Value.ref 166, Value.none, Value.ref 167, Value.ref 168, Value.ref 169, Value.int 414 0, Value.int 154 0, Value.str (Str.ofString "/claim/cut.py") 415] }
noncomputable abbrev ob171_5 (_ : Params) : Obj := { cls := Value.type "function", data := Data.func { name := Str.ofString "S_ISREG", qualname := Str.ofString "S_ISREG", params := hA (hSt 31), body := FuncBody.stmts (hB (hSt 31)), scope := hS (hSt 31), globals := 3, closure := [], defaults := Value.none, kwdefaults := Value.none, pyModule := Value.str (Str.ofString "cpy313.stat") 373, code := Value.ref 170 } }
noncomputable abbrev ob172_5 (_ : Params) : Obj := { cls := Value.type "tuple", data := Data.seq #[] }
noncomputable abbrev ob173_5 (_ : Params) : Obj := { cls := Value.none, data := Data.fields #[] }
noncomputable abbrev ob174_5 (_ : Params) : Obj := { cls := Value.type "tuple", data := Data.seq #[Value.str (Str.ofString "mode") 420] }
noncomputable abbrev ob175_5 (_ : Params) : Obj := { cls := Value.type "tuple", data := Data.seq #[] }
noncomputable abbrev ob176_5 (_ : Params) : Obj := { cls := Value.none, data := Data.func { name := Str.ofString "S_ISLNK", qualname := Str.ofString "S_ISLNK", params := hA (hSt 32), body := FuncBody.stmts (hB (hSt 32)), scope := hS (hSt 32), globals := 0, closure := [], defaults := Value.none, kwdefaults := Value.none } }
noncomputable abbrev ob177_5 (_ : Params) : Obj := { cls := Value.type "code", data := Data.fields #[Value.str (Str.ofString "S_ISLNK") 417, Value.str (Str.ofString "S_ISLNK") 418, Value.str (Str.ofString "/claim/cut.py") 419, Value.int 156 0, Value.int 1 0, Value.int 0 0, Value.int 0 0, Value.int 3 0, Value.ref 172, Value.bool true, Value.int 181 0, Value.ref 173, Value.none, Value.ref 174, Value.ref 175, Value.ref 176, Value.int 421 0, Value.int 156 0, Value.str (Str.ofString "/claim/cut.py") 422] }
noncomputable abbrev ob178_5 (_ : Params) : Obj := { cls := Value.type "function", data := Data.func { name := Str.ofString "S_ISLNK", qualname := Str.ofString "S_ISLNK", params := hA (hSt 32), body := FuncBody.stmts (hB (hSt 32)), scope := hS (hSt 32), globals := 3, closure := [], defaults := Value.none, kwdefaults := Value.none, pyModule := Value.str (Str.ofString "cpy313.stat") 373, code := Value.ref 177 } }
noncomputable abbrev ob3_6 (P : Params) : Obj := { cls := Value.type "dict", data := Data.dict #[{ hash := PyData.keyHash P (Str.ofString "__name__"), key := Value.str (Str.ofString "__name__") 165, val := Value.str (Str.ofString "law_rt0068_01") 486 }, { hash := PyData.keyHash P (Str.ofString "__doc__"), key := Value.str (Str.ofString "__doc__") 166, val := Value.none }, { hash := PyData.keyHash P (Str.ofString "__package__"), key := Value.str (Str.ofString "__package__") 167, val := Value.none }, { hash := PyData.keyHash P (Str.ofString "__loader__"), key := Value.str (Str.ofString "__loader__") 168, val := Value.builtin "__main__.__loader__#opaque" }, { hash := PyData.keyHash P (Str.ofString "__spec__"), key := Value.str (Str.ofString "__spec__") 169, val := Value.none }, { hash := PyData.keyHash P (Str.ofString "__annotations__"), key := Value.str (Str.ofString "__annotations__") 170, val := Value.ref 6 }, { hash := PyData.keyHash P (Str.ofString "__builtins__"), key := Value.str (Str.ofString "__builtins__") 171, val := Value.ref 4 }, { hash := PyData.keyHash P (Str.ofString "__file__"), key := Value.str (Str.ofString "__file__") 173, val := Value.str (Str.ofString "/claim/cut.py") 172 }, { hash := PyData.keyHash P (Str.ofString "__cached__"), key := Value.str (Str.ofString "__cached__") 174, val := Value.none }, { hash := PyData.keyHash P (Str.ofString "_wall"), key := Value.str (Str.ofString "_wall") 193, val := Value.ref 21 }, { hash := PyData.keyHash P (Str.ofString "_byteswap"), key := Value.str (Str.ofString "_byteswap") 206, val := Value.ref 28 }, { hash := PyData.keyHash P (Str.ofString "_plain_name"), key := Value.str (Str.ofString "_plain_name") 217, val := Value.ref 35 }, { hash := PyData.keyHash P (Str.ofString "ABCMeta"), key := Value.str (Str.ofString "ABCMeta") 243, val := Value.ref 52 }, { hash := PyData.keyHash P (Str.ofString "_ABCLike"), key := Value.str (Str.ofString "_ABCLike") 286, val := Value.ref 85 }, { hash := PyData.keyHash P (Str.ofString "_abc_plain_meta"), key := Value.str (Str.ofString "_abc_plain_meta") 293, val := Value.ref 94 }, { hash := PyData.keyHash P (Str.ofString "fspath"), key := Value.str (Str.ofString "fspath") 305, val := Value.ref 101 }, { hash := PyData.keyHash P (Str.ofString "_check_arg_types"), key := Value.str (Str.ofString "_check_arg_types") 318, val := Value.ref 108 }, { hash := PyData.keyHash P (Str.ofString "_get_sep"), key := Value.str (Str.ofString "_get_sep") 327, val := Value.ref 115 }, { hash := PyData.keyHash P (Str.ofString "join"), key := Value.str (Str.ofString "join") 338, val := Value.ref 122 }, { hash := PyData.keyHash P (Str.ofString "splitroot"), key := Value.str (Str.ofString "splitroot") 347, val := Value.ref 129 }, { hash := PyData.keyHash P (Str.ofString "dirname"), key := Value.str (Str.ofString "dirname") 357, val := Value.ref 136 }, { hash := PyData.keyHash P (Str.ofString "normpath"), key := Value.str (Str.ofString "normpath") 372, val := Value.ref 143 }, { hash := PyData.keyHash P (Str.ofString "S_IMODE"), key := Value.str (Str.ofString "S_IMODE") 381, val := Value.ref 150 }, { hash := PyData.keyHash P (Str.ofString "S_IFMT"), key := Value.str (Str.ofString "S_IFMT") 388, val := Value.ref 157 }, { hash := PyData.keyHash P (Str.ofString "S_IFDIR"), key := Value.str (Str.ofString "S_IFDIR") 390, val := Value.int 16384 389 }, { hash := PyData.keyHash P (Str.ofString "S_IFCHR"), key := Value.str (Str.ofString "S_IFCHR") 392, val := Value.int 8192 391 }, { hash := PyData.keyHash P (Str.ofString "S_IFBLK"), key := Value.str (Str.ofString "S_IFBLK") 394, val := Value.int 24576 393 }, { hash := PyData.keyHash P (Str.ofString "S_IFREG"), key := Value.str (Str.ofString "S_IFREG") 396, val := Value.int 32768 395 }, { hash := PyData.keyHash P (Str.ofString "S_IFIFO"), key := Value.str (Str.ofString "S_IFIFO") 398, val := Value.int 4096 397 }, { hash := PyData.keyHash P (Str.ofString "S_IFLNK"), key := Value.str (Str.ofString "S_IFLNK") 400, val := Value.int 40960 399 }, { hash := PyData.keyHash P (Str.ofString "S_IFSOCK"), key := Value.str (Str.ofString "S_IFSOCK") 402, val := Value.int 49152 401 }, { hash := PyData.keyHash P (Str.ofString "S_ISDIR"), key := Value.str (Str.ofString "S_ISDIR") 409, val := Value.ref 164 }, { hash := PyData.keyHash P (Str.ofString "S_ISREG"), key := Value.str (Str.ofString "S_ISREG") 416, val := Value.ref 171 }, { hash := PyData.keyHash P (Str.ofString "S_ISLNK"), key := Value.str (Str.ofString "S_ISLNK") 423, val := Value.ref 178 }, { hash := PyData.keyHash P (Str.ofString "S_ISUID"), key := Value.str (Str.ofString "S_ISUID") 425, val := Value.int 2048 424 }, { hash := PyData.keyHash P (Str.ofString "S_ISGID"), key := Value.str (Str.ofString "S_ISGID") 427, val := Value.int 1024 426 }, { hash := PyData.keyHash P (Str.ofString "S_ISVTX"), key := Value.str (Str.ofString "S_ISVTX") 429, val := Value.int 512 428 }, { hash := PyData.keyHash P (Str.ofString "S_IRUSR"), key := Value.str (Str.ofString "S_IRUSR") 431, val := Value.int 256 430 }, { hash := PyData.keyHash P (Str.ofString "S_IWUSR"), key := Value.str (Str.ofString "S_IWUSR") 433, val := Value.int 128 432 }, { hash := PyData.keyHash P (Str.ofString "S_IXUSR"), key := Value.str (Str.ofString "S_IXUSR") 435, val := Value.int 64 434 }, { hash := PyData.keyHash P (Str.ofString "S_IRGRP"), key := Value.str (Str.ofString "S_IRGRP") 437, val := Value.int 32 436 }, { hash := PyData.keyHash P (Str.ofString "S_IWGRP"), key := Value.str (Str.ofString "S_IWGRP") 439, val := Value.int 16 438 }, { hash := PyData.keyHash P (Str.ofString "S_IXGRP"), key := Value.str (Str.ofString "S_IXGRP") 441, val := Value.int 8 440 }, { hash := PyData.keyHash P (Str.ofString "S_IROTH"), key := Value.str (Str.ofString "S_IROTH") 443, val := Value.int 4 442 }, { hash := PyData.keyHash P (Str.ofString "S_IWOTH"), key := Value.str (Str.ofString "S_IWOTH") 445, val := Value.int 2 444 }, { hash := PyData.keyHash P (Str.ofString "S_IXOTH"), key := Value.str (Str.ofString "S_IXOTH") 447, val := Value.int 1 446 }, { hash := PyData.keyHash P (Str.ofString "_filemode_table"), key := Value.str (Str.ofString "_filemode_table") 473, val := Value.ref 211 }, { hash := PyData.keyHash P (Str.ofString "filemode"), key := Value.str (Str.ofString "filemode") 485, val := Value.ref 218 }, { hash := PyData.keyHash P (Str.ofString "_law_tree"), key := Value.str (Str.ofString "_law_tree") 500, val := Value.ref 225 }, { hash := PyData.keyHash P (Str.ofString "_law_mode"), key := Value.str (Str.ofString "_law_mode") 508, val := Value.ref 232 }, { hash := PyData.keyHash P (Str.ofString "_law_text"), key := Value.str (Str.ofString "_law_text") 514, val := Value.ref 237 }, { hash := PyData.keyHash P (Str.ofString "_law_exchanged"), key := Value.str (Str.ofString "_law_exchanged") 524, val := Value.ref 244 }] 52 }
noncomputable abbrev ob12_6 (_ : Params) : Obj := { cls := Value.none, data := Data.fields #[Value.int 1 0, Value.int 0 0, Value.ref 20, Value.int 5 0, Value.int 0 0, Value.ref 27, Value.int 12 0, Value.int 0 0, Value.ref 34, Value.int 18 0, Value.int 0 0, Value.ref 41, Value.int 23 0, Value.int 0 0, Value.ref 60, Value.int 38 0, Value.int 0 0, Value.ref 93, Value.int 42 0, Value.int 0 0, Value.ref 100, Value.int 59 0, Value.int 0 0, Value.ref 107, Value.int 71 0, Value.int 0 0, Value.ref 114, Value.int 76 0, Value.int 0 0, Value.ref 121, Value.int 93 0, Value.int 0 0, Value.ref 128, Value.int 107 0, Value.int 0 0, Value.ref 135, Value.int 115 0, Value.int 0 0, Value.ref 142, Value.int 141 0, Value.int 0 0, Value.ref 149, Value.int 143 0, Value.int 0 0, Value.ref 156, Value.int 152 0, Value.int 0 0, Value.ref 163, Value.int 154 0, Value.int 0 0, Value.ref 170, Value.int 156 0, Value.int 0 0, Value.ref 177, Value.int 171 0, Value.int 0 0, Value.ref 217, Value.int 189 0, Value.int 0 0, Value.ref 224, Value.int 199 0, Value.int 0 0, Value.ref 231, Value.int 201 0, Value.int 0 0, Value.ref 236, Value.int 203 0, Value.int 0 0, Value.ref 243] }
noncomputable abbrev ob179_6 (_ : Params) : Obj := { cls := Value.type "tuple", data := Data.seq #[Value.int 40960 399, Value.str (Str.ofString "l") 448] }
noncomputable abbrev ob180_6 (_ : Params) : Obj := { cls := Value.type "tuple", data := Data.seq #[Value.int 49152 401, Value.str (Str.ofString "s") 449] }
noncomputable abbrev ob181_6 (_ : Params) : Obj := { cls := Value.type "tuple", data := Data.seq #[Value.int 32768 395, Value.str (Str.ofString "-") 450] }
noncomputable abbrev ob182_6 (_ : Params) : Obj := { cls := Value.type "tuple", data := Data.seq #[Value.int 24576 393, Value.str (Str.ofString "b") 451] }
noncomputable abbrev ob183_6 (_ : Params) : Obj := { cls := Value.type "tuple", data := Data.seq #[Value.int 16384 389, Value.str (Str.ofString "d") 452] }
noncomputable abbrev ob184_6 (_ : Params) : Obj := { cls := Value.type "tuple", data := Data.seq #[Value.int 8192 391, Value.str (Str.ofString "c") 453] }
noncomputable abbrev ob185_6 (_ : Params) : Obj := { cls := Value.type "tuple", data := Data.seq #[Value.int 4096 397, Value.str (Str.ofString "p") 454] }
noncomputable abbrev ob186_6 (_ : Params) : Obj := { cls := Value.type "tuple", data := Data.seq #[Value.ref 179, Value.ref 180, Value.ref 181, Value.ref 182, Value.ref 183, Value.ref 184, Value.ref 185] }
noncomputable abbrev ob187_6 (_ : Params) : Obj := { cls := Value.type "tuple", data := Data.seq #[Value.int 256 430, Value.str (Str.ofString "r") 455] }
noncomputable abbrev ob188_6 (_ : Params) : Obj := { cls := Value.type "tuple", data := Data.seq #[Value.ref 187] }
noncomputable abbrev ob189_6 (_ : Params) : Obj := { cls := Value.type "tuple", data := Data.seq #[Value.int 128 432, Value.str (Str.ofString "w") 456] }
noncomputable abbrev ob190_6 (_ : Params) : Obj := { cls := Value.type "tuple", data := Data.seq #[Value.ref 189] }
noncomputable abbrev ob191_6 (_ : Params) : Obj := { cls := Value.type "tuple", data := Data.seq #[Value.int 2112 457, Value.str (Str.ofString "s") 458] }
noncomputable abbrev ob192_6 (_ : Params) : Obj := { cls := Value.type "tuple", data := Data.seq #[Value.int 2048 424, Value.str (Str.ofString "S") 459] }
noncomputable abbrev ob193_6 (_ : Params) : Obj := { cls := Value.type "tuple", data := Data.seq #[Value.int 64 434, Value.str (Str.ofString "x") 460] }
noncomputable abbrev ob194_6 (_ : Params) : Obj := { cls := Value.type "tuple", data := Data.seq #[Value.ref 191, Value.ref 192, Value.ref 193] }
noncomputable abbrev ob195_6 (_ : Params) : Obj := { cls := Value.type "tuple", data := Data.seq #[Value.int 32 436, Value.str (Str.ofString "r") 461] }
noncomputable abbrev ob196_6 (_ : Params) : Obj := { cls := Value.type "tuple", data := Data.seq #[Value.ref 195] }
noncomputable abbrev ob197_6 (_ : Params) : Obj := { cls := Value.type "tuple", data := Data.seq #[Value.int 16 438, Value.str (Str.ofString "w") 462] }
noncomputable abbrev ob198_6 (_ : Params) : Obj := { cls := Value.type "tuple", data := Data.seq #[Value.ref 197] }
noncomputable abbrev ob199_6 (_ : Params) : Obj := { cls := Value.type "tuple", data := Data.seq #[Value.int 1032 463, Value.str (Str.ofString "s") 464] }
noncomputable abbrev ob200_6 (_ : Params) : Obj := { cls := Value.type "tuple", data := Data.seq #[Value.int 1024 426, Value.str (Str.ofString "S") 465] }
noncomputable abbrev ob201_6 (_ : Params) : Obj := { cls := Value.type "tuple", data := Data.seq #[Value.int 8 440, Value.str (Str.ofString "x") 466] }
noncomputable abbrev ob202_6 (_ : Params) : Obj := { cls := Value.type "tuple", data := Data.seq #[Value.ref 199, Value.ref 200, Value.ref 201] }
noncomputable abbrev ob203_6 (_ : Params) : Obj := { cls := Value.type "tuple", data := Data.seq #[Value.int 4 442, Value.str (Str.ofString "r") 467] }
noncomputable abbrev ob204_6 (_ : Params) : Obj := { cls := Value.type "tuple", data := Data.seq #[Value.ref 203] }
noncomputable abbrev ob205_6 (_ : Params) : Obj := { cls := Value.type "tuple", data := Data.seq #[Value.int 2 444, Value.str (Str.ofString "w") 468] }
noncomputable abbrev ob206_6 (_ : Params) : Obj := { cls := Value.type "tuple", data := Data.seq #[Value.ref 205] }
noncomputable abbrev ob207_6 (_ : Params) : Obj := { cls := Value.type "tuple", data := Data.seq #[Value.int 513 469, Value.str (Str.ofString "t") 470] }
noncomputable abbrev ob208_6 (_ : Params) : Obj := { cls := Value.type "tuple", data := Data.seq #[Value.int 512 428, Value.str (Str.ofString "T") 471] }
noncomputable abbrev ob209_6 (_ : Params) : Obj := { cls := Value.type "tuple", data := Data.seq #[Value.int 1 446, Value.str (Str.ofString "x") 472] }
noncomputable abbrev ob210_6 (_ : Params) : Obj := { cls := Value.type "tuple", data := Data.seq #[Value.ref 207, Value.ref 208, Value.ref 209] }
noncomputable abbrev ob211_6 (_ : Params) : Obj := { cls := Value.type "tuple", data := Data.seq #[Value.ref 186, Value.ref 188, Value.ref 190, Value.ref 194, Value.ref 196, Value.ref 198, Value.ref 202, Value.ref 204, Value.ref 206, Value.ref 210] }
noncomputable abbrev ob212_6 (_ : Params) : Obj := { cls := Value.type "tuple", data := Data.seq #[] }
noncomputable abbrev ob213_6 (_ : Params) : Obj := { cls := Value.none, data := Data.fields #[] }
noncomputable abbrev ob214_6 (_ : Params) : Obj := { cls := Value.type "tuple", data := Data.seq #[Value.str (Str.ofString "mode") 477, Value.str (Str.ofString "perm") 478, Value.str (Str.ofString "index") 479, Value.str (Str.ofString "table") 480, Value.str (Str.ofString "bit") 481, Value.str (Str.ofString "char") 482] }
noncomputable abbrev ob215_6 (_ : Params) : Obj := { cls := Value.type "tuple", data := Data.seq #[] }
noncomputable abbrev ob216_6 (_ : Params) : Obj := { cls := Value.none, data := Data.func { name := Str.ofString "filemode", qualname := Str.ofString "filemode", params := hA (hSt 46), body := FuncBody.stmts (hB (hSt 46)), scope := hS (hSt 46), globals := 0, closure := [], defaults := Value.none, kwdefaults := Value.none } }
noncomputable abbrev ob217_6 (_ : Params) : Obj := { cls := Value.type "code", data := Data.fields #[Value.str (Str.ofString "filemode") 474, Value.str (Str.ofString "filemode") 475, Value.str (Str.ofString "/claim/cut.py") 476, Value.int 171 0, Value.int 1 0, Value.int 0 0, Value.int 0 0, Value.int 3 0, Value.ref 212, Value.bool true, Value.int 181 0, Value.ref 213, Value.none, Value.ref 214, Value.ref 215, Value.ref 216, Value.int 483 0, Value.int 171 0, Value.str (Str.ofString "/claim/cut.py") 484] }
noncomputable abbrev ob218_6 (_ : Params) : Obj := { cls := Value.type "function", data := Data.func { name := Str.ofString "filemode", qualname := Str.ofString "filemode", params := hA (hSt 46), body := FuncBody.stmts (hB (hSt 46)), scope := hS (hSt 46), globals := 3, closure := [], defaults := Value.none, kwdefaults := Value.none, pyModule := Value.str (Str.ofString "cpy313.stat") 373, code := Value.ref 217 } }
noncomputable abbrev ob219_6 (_ : Params) : Obj := { cls := Value.type "tuple", data := Data.seq #[] }
noncomputable abbrev ob220_6 (_ : Params) : Obj := { cls := Value.none, data := Data.fields #[] }
noncomputable abbrev ob221_6 (_ : Params) : Obj := { cls := Value.type "tuple", data := Data.seq #[Value.str (Str.ofString "numbers") 491, Value.str (Str.ofString "entries") 492, Value.str (Str.ofString "folders") 493, Value.str (Str.ofString "k") 494, Value.str (Str.ofString "x") 495, Value.str (Str.ofString "above") 496, Value.str (Str.ofString "path") 497] }
noncomputable abbrev ob222_6 (_ : Params) : Obj := { cls := Value.type "tuple", data := Data.seq #[] }
noncomputable abbrev ob223_6 (_ : Params) : Obj := { cls := Value.none, data := Data.func { name := Str.ofString "_law_tree", qualname := Str.ofString "_law_tree", params := hA (hSt 48), body := FuncBody.stmts (hB (hSt 48)), scope := hS (hSt 48), globals := 0, closure := [], defaults := Value.none, kwdefaults := Value.none } }
noncomputable abbrev ob224_6 (_ : Params) : Obj := { cls := Value.type "code", data := Data.fields #[Value.str (Str.ofString "_law_tree") 488, Value.str (Str.ofString "_law_tree") 489, Value.str (Str.ofString "/claim/cut.py") 490, Value.int 189 0, Value.int 1 0, Value.int 0 0, Value.int 0 0, Value.int 3 0, Value.ref 219, Value.bool true, Value.int 181 0, Value.ref 220, Value.none, Value.ref 221, Value.ref 222, Value.ref 223, Value.int 498 0, Value.int 189 0, Value.str (Str.ofString "/claim/cut.py") 499] }
noncomputable abbrev ob225_6 (_ : Params) : Obj := { cls := Value.type "function", data := Data.func { name := Str.ofString "_law_tree", qualname := Str.ofString "_law_tree", params := hA (hSt 48), body := FuncBody.stmts (hB (hSt 48)), scope := hS (hSt 48), globals := 3, closure := [], defaults := Value.none, kwdefaults := Value.none, pyModule := Value.str (Str.ofString "law_rt0068_01") 486, code := Value.ref 224 } }
noncomputable abbrev ob226_6 (_ : Params) : Obj := { cls := Value.type "tuple", data := Data.seq #[] }
noncomputable abbrev ob227_6 (_ : Params) : Obj := { cls := Value.none, data := Data.fields #[] }
noncomputable abbrev ob228_6 (_ : Params) : Obj := { cls := Value.type "tuple", data := Data.seq #[Value.str (Str.ofString "kind") 504, Value.str (Str.ofString "bits") 505] }
noncomputable abbrev ob229_6 (_ : Params) : Obj := { cls := Value.type "tuple", data := Data.seq #[] }
noncomputable abbrev ob230_6 (_ : Params) : Obj := { cls := Value.none, data := Data.func { name := Str.ofString "_law_mode", qualname := Str.ofString "_law_mode", params := hA (hSt 49), body := FuncBody.stmts (hB (hSt 49)), scope := hS (hSt 49), globals := 0, closure := [], defaults := Value.none, kwdefaults := Value.none } }
noncomputable abbrev ob231_6 (_ : Params) : Obj := { cls := Value.type "code", data := Data.fields #[Value.str (Str.ofString "_law_mode") 501, Value.str (Str.ofString "_law_mode") 502, Value.str (Str.ofString "/claim/cut.py") 503, Value.int 199 0, Value.int 2 0, Value.int 0 0, Value.int 0 0, Value.int 3 0, Value.ref 226, Value.bool true, Value.int 181 0, Value.ref 227, Value.none, Value.ref 228, Value.ref 229, Value.ref 230, Value.int 506 0, Value.int 199 0, Value.str (Str.ofString "/claim/cut.py") 507] }
noncomputable abbrev ob232_6 (_ : Params) : Obj := { cls := Value.type "function", data := Data.func { name := Str.ofString "_law_mode", qualname := Str.ofString "_law_mode", params := hA (hSt 49), body := FuncBody.stmts (hB (hSt 49)), scope := hS (hSt 49), globals := 3, closure := [], defaults := Value.none, kwdefaults := Value.none, pyModule := Value.str (Str.ofString "law_rt0068_01") 486, code := Value.ref 231 } }
noncomputable abbrev ob233_6 (_ : Params) : Obj := { cls := Value.type "tuple", data := Data.seq #[] }
noncomputable abbrev ob234_6 (_ : Params) : Obj := { cls := Value.none, data := Data.fields #[] }
noncomputable abbrev ob235_6 (_ : Params) : Obj := { cls := Value.none, data := Data.func { name := Str.ofString "_law_text", qualname := Str.ofString "_law_text", params := hA (hSt 50), body := FuncBody.stmts (hB (hSt 50)), scope := hS (hSt 50), globals := 0, closure := [], defaults := Value.none, kwdefaults := Value.none } }
noncomputable abbrev ob236_6 (_ : Params) : Obj := { cls := Value.type "code", data := Data.fields #[Value.str (Str.ofString "_law_text") 509, Value.str (Str.ofString "_law_text") 510, Value.str (Str.ofString "/claim/cut.py") 511, Value.int 201 0, Value.int 2 0, Value.int 0 0, Value.int 0 0, Value.int 3 0, Value.ref 233, Value.bool true, Value.int 181 0, Value.ref 234, Value.none, Value.none, Value.none, Value.ref 235, Value.int 512 0, Value.int 201 0, Value.str (Str.ofString "/claim/cut.py") 513] }
noncomputable abbrev ob237_6 (_ : Params) : Obj := { cls := Value.type "function", data := Data.func { name := Str.ofString "_law_text", qualname := Str.ofString "_law_text", params := hA (hSt 50), body := FuncBody.stmts (hB (hSt 50)), scope := hS (hSt 50), globals := 3, closure := [], defaults := Value.none, kwdefaults := Value.none, pyModule := Value.str (Str.ofString "law_rt0068_01") 486, code := Value.ref 236 } }
noncomputable abbrev ob238_6 (_ : Params) : Obj := { cls := Value.type "tuple", data := Data.seq #[] }
noncomputable abbrev ob239_6 (_ : Params) : Obj := { cls := Value.none, data := Data.fields #[] }
noncomputable abbrev ob240_6 (_ : Params) : Obj := { cls := Value.type "tuple", data := Data.seq #[Value.str (Str.ofString "text") 518, Value.str (Str.ofString "nine") 519, Value.str (Str.ofString "whole") 520, Value.str (Str.ofString "threes") 521] }
noncomputable abbrev ob241_6 (_ : Params) : Obj := { cls := Value.type "tuple", data := Data.seq #[] }
noncomputable abbrev ob242_6 (_ : Params) : Obj := { cls := Value.none, data := Data.func { name := Str.ofString "_law_exchanged", qualname := Str.ofString "_law_exchanged", params := hA (hSt 51), body := FuncBody.stmts (hB (hSt 51)), scope := hS (hSt 51), globals := 0, closure := [], defaults := Value.none, kwdefaults := Value.none } }
noncomputable abbrev ob243_6 (_ : Params) : Obj := { cls := Value.type "code", data := Data.fields #[Value.str (Str.ofString "_law_exchanged") 515, Value.str (Str.ofString "_law_exchanged") 516, Value.str (Str.ofString "/claim/cut.py") 517, Value.int 203 0, Value.int 1 0, Value.int 0 0, Value.int 0 0, Value.int 3 0, Value.ref 238, Value.bool true, Value.int 181 0, Value.ref 239, Value.none, Value.ref 240, Value.ref 241, Value.ref 242, Value.int 522 0, Value.int 203 0, Value.str (Str.ofString "/claim/cut.py") 523] }
noncomputable abbrev ob244_6 (_ : Params) : Obj := { cls := Value.type "function", data := Data.func { name := Str.ofString "_law_exchanged", qualname := Str.ofString "_law_exchanged", params := hA (hSt 51), body := FuncBody.stmts (hB (hSt 51)), scope := hS (hSt 51), globals := 3, closure := [], defaults := Value.none, kwdefaults := Value.none, pyModule := Value.str (Str.ofString "law_rt0068_01") 486, code := Value.ref 243 } }
noncomputable abbrev ob3_7 (P : Params) : Obj := { cls := Value.type "dict", data := Data.dict #[{ hash := PyData.keyHash P (Str.ofString "__name__"), key := Value.str (Str.ofString "__name__") 165, val := Value.str (Str.ofString "law_rt0068_01") 486 }, { hash := PyData.keyHash P (Str.ofString "__doc__"), key := Value.str (Str.ofString "__doc__") 166, val := Value.none }, { hash := PyData.keyHash P (Str.ofString "__package__"), key := Value.str (Str.ofString "__package__") 167, val := Value.none }, { hash := PyData.keyHash P (Str.ofString "__loader__"), key := Value.str (Str.ofString "__loader__") 168, val := Value.builtin "__main__.__loader__#opaque" }, { hash := PyData.keyHash P (Str.ofString "__spec__"), key := Value.str (Str.ofString "__spec__") 169, val := Value.none }, { hash := PyData.keyHash P (Str.ofString "__annotations__"), key := Value.str (Str.ofString "__annotations__") 170, val := Value.ref 6 }, { hash := PyData.keyHash P (Str.ofString "__builtins__"), key := Value.str (Str.ofString "__builtins__") 171, val := Value.ref 4 }, { hash := PyData.keyHash P (Str.ofString "__file__"), key := Value.str (Str.ofString "__file__") 173, val := Value.str (Str.ofString "/claim/cut.py") 172 }, { hash := PyData.keyHash P (Str.ofString "__cached__"), key := Value.str (Str.ofString "__cached__") 174, val := Value.none }, { hash := PyData.keyHash P (Str.ofString "_wall"), key := Value.str (Str.ofString "_wall") 193, val := Value.ref 21 }, { hash := PyData.keyHash P (Str.ofString "_byteswap"), key := Value.str (Str.ofString "_byteswap") 206, val := Value.ref 28 }, { hash := PyData.keyHash P (Str.ofString "_plain_name"), key := Value.str (Str.ofString "_plain_name") 217, val := Value.ref 35 }, { hash := PyData.keyHash P (Str.ofString "ABCMeta"), key := Value.str (Str.ofString "ABCMeta") 243, val := Value.ref 52 }, { hash := PyData.keyHash P (Str.ofString "_ABCLike"), key := Value.str (Str.ofString "_ABCLike") 286, val := Value.ref 85 }, { hash := PyData.keyHash P (Str.ofString "_abc_plain_meta"), key := Value.str (Str.ofString "_abc_plain_meta") 293, val := Value.ref 94 }, { hash := PyData.keyHash P (Str.ofString "fspath"), key := Value.str (Str.ofString "fspath") 305, val := Value.ref 101 }, { hash := PyData.keyHash P (Str.ofString "_check_arg_types"), key := Value.str (Str.ofString "_check_arg_types") 318, val := Value.ref 108 }, { hash := PyData.keyHash P (Str.ofString "_get_sep"), key := Value.str (Str.ofString "_get_sep") 327, val := Value.ref 115 }, { hash := PyData.keyHash P (Str.ofString "join"), key := Value.str (Str.ofString "join") 338, val := Value.ref 122 }, { hash := PyData.keyHash P (Str.ofString "splitroot"), key := Value.str (Str.ofString "splitroot") 347, val := Value.ref 129 }, { hash := PyData.keyHash P (Str.ofString "dirname"), key := Value.str (Str.ofString "dirname") 357, val := Value.ref 136 }, { hash := PyData.keyHash P (Str.ofString "normpath"), key := Value.str (Str.ofString "normpath") 372, val := Value.ref 143 }, { hash := PyData.keyHash P (Str.ofString "S_IMODE"), key := Value.str (Str.ofString "S_IMODE") 381, val := Value.ref 150 }, { hash := PyData.keyHash P (Str.ofString "S_IFMT"), key := Value.str (Str.ofString "S_IFMT") 388, val := Value.ref 157 }, { hash := PyData.keyHash P (Str.ofString "S_IFDIR"), key := Value.str (Str.ofString "S_IFDIR") 390, val := Value.int 16384 389 }, { hash := PyData.keyHash P (Str.ofString "S_IFCHR"), key := Value.str (Str.ofString "S_IFCHR") 392, val := Value.int 8192 391 }, { hash := PyData.keyHash P (Str.ofString "S_IFBLK"), key := Value.str (Str.ofString "S_IFBLK") 394, val := Value.int 24576 393 }, { hash := PyData.keyHash P (Str.ofString "S_IFREG"), key := Value.str (Str.ofString "S_IFREG") 396, val := Value.int 32768 395 }, { hash := PyData.keyHash P (Str.ofString "S_IFIFO"), key := Value.str (Str.ofString "S_IFIFO") 398, val := Value.int 4096 397 }, { hash := PyData.keyHash P (Str.ofString "S_IFLNK"), key := Value.str (Str.ofString "S_IFLNK") 400, val := Value.int 40960 399 }, { hash := PyData.keyHash P (Str.ofString "S_IFSOCK"), key := Value.str (Str.ofString "S_IFSOCK") 402, val := Value.int 49152 401 }, { hash := PyData.keyHash P (Str.ofString "S_ISDIR"), key := Value.str (Str.ofString "S_ISDIR") 409, val := Value.ref 164 }, { hash := PyData.keyHash P (Str.ofString "S_ISREG"), key := Value.str (Str.ofString "S_ISREG") 416, val := Value.ref 171 }, { hash := PyData.keyHash P (Str.ofString "S_ISLNK"), key := Value.str (Str.ofString "S_ISLNK") 423, val := Value.ref 178 }, { hash := PyData.keyHash P (Str.ofString "S_ISUID"), key := Value.str (Str.ofString "S_ISUID") 425, val := Value.int 2048 424 }, { hash := PyData.keyHash P (Str.ofString "S_ISGID"), key := Value.str (Str.ofString "S_ISGID") 427, val := Value.int 1024 426 }, { hash := PyData.keyHash P (Str.ofString "S_ISVTX"), key := Value.str (Str.ofString "S_ISVTX") 429, val := Value.int 512 428 }, { hash := PyData.keyHash P (Str.ofString "S_IRUSR"), key := Value.str (Str.ofString "S_IRUSR") 431, val := Value.int 256 430 }, { hash := PyData.keyHash P (Str.ofString "S_IWUSR"), key := Value.str (Str.ofString "S_IWUSR") 433, val := Value.int 128 432 }, { hash := PyData.keyHash P (Str.ofString "S_IXUSR"), key := Value.str (Str.ofString "S_IXUSR") 435, val := Value.int 64 434 }, { hash := PyData.keyHash P (Str.ofString "S_IRGRP"), key := Value.str (Str.ofString "S_IRGRP") 437, val := Value.int 32 436 }, { hash := PyData.keyHash P (Str.ofString "S_IWGRP"), key := Value.str (Str.ofString "S_IWGRP") 439, val := Value.int 16 438 }, { hash := PyData.keyHash P (Str.ofString "S_IXGRP"), key := Value.str (Str.ofString "S_IXGRP") 441, val := Value.int 8 440 }, { hash := PyData.keyHash P (Str.ofString "S_IROTH"), key := Value.str (Str.ofString "S_IROTH") 443, val := Value.int 4 442 }, { hash := PyData.keyHash P (Str.ofString "S_IWOTH"), key := Value.str (Str.ofString "S_IWOTH") 445, val := Value.int 2 444 }, { hash := PyData.keyHash P (Str.ofString "S_IXOTH"), key := Value.str (Str.ofString "S_IXOTH") 447, val := Value.int 1 446 }, { hash := PyData.keyHash P (Str.ofString "_filemode_table"), key := Value.str (Str.ofString "_filemode_table") 473, val := Value.ref 211 }, { hash := PyData.keyHash P (Str.ofString "filemode"), key := Value.str (Str.ofString "filemode") 485, val := Value.ref 218 }, { hash := PyData.keyHash P (Str.ofString "_law_tree"), key := Value.str (Str.ofString "_law_tree") 500, val := Value.ref 225 }, { hash := PyData.keyHash P (Str.ofString "_law_mode"), key := Value.str (Str.ofString "_law_mode") 508, val := Value.ref 232 }, { hash := PyData.keyHash P (Str.ofString "_law_text"), key := Value.str (Str.ofString "_law_text") 514, val := Value.ref 237 }, { hash := PyData.keyHash P (Str.ofString "_law_exchanged"), key := Value.str (Str.ofString "_law_exchanged") 524, val := Value.ref 244 }, { hash := PyData.keyHash P (Str.ofString "_law_right"), key := Value.str (Str.ofString "_law_right") 530, val := Value.ref 249 }, { hash := PyData.keyHash P (Str.ofString "_law_through"), key := Value.str (Str.ofString "_law_through") 536, val := Value.ref 254 }, { hash := PyData.keyHash P (Str.ofString "_law_laid"), key := Value.str (Str.ofString "_law_laid") 549, val := Value.ref 261 }, { hash := PyData.keyHash P (Str.ofString "_law_open"), key := Value.str (Str.ofString "_law_open") 558, val := Value.ref 268 }, { hash := PyData.keyHash P (Str.ofString "law"), key := Value.str (Str.ofString "law") 564, val := Value.ref 273 }] 57 }
noncomputable abbrev ob12_7 (_ : Params) : Obj := { cls := Value.none, data := Data.fields #[Value.int 1 0, Value.int 0 0, Value.ref 20, Value.int 5 0, Value.int 0 0, Value.ref 27, Value.int 12 0, Value.int 0 0, Value.ref 34, Value.int 18 0, Value.int 0 0, Value.ref 41, Value.int 23 0, Value.int 0 0, Value.ref 60, Value.int 38 0, Value.int 0 0, Value.ref 93, Value.int 42 0, Value.int 0 0, Value.ref 100, Value.int 59 0, Value.int 0 0, Value.ref 107, Value.int 71 0, Value.int 0 0, Value.ref 114, Value.int 76 0, Value.int 0 0, Value.ref 121, Value.int 93 0, Value.int 0 0, Value.ref 128, Value.int 107 0, Value.int 0 0, Value.ref 135, Value.int 115 0, Value.int 0 0, Value.ref 142, Value.int 141 0, Value.int 0 0, Value.ref 149, Value.int 143 0, Value.int 0 0, Value.ref 156, Value.int 152 0, Value.int 0 0, Value.ref 163, Value.int 154 0, Value.int 0 0, Value.ref 170, Value.int 156 0, Value.int 0 0, Value.ref 177, Value.int 171 0, Value.int 0 0, Value.ref 217, Value.int 189 0, Value.int 0 0, Value.ref 224, Value.int 199 0, Value.int 0 0, Value.ref 231, Value.int 201 0, Value.int 0 0, Value.ref 236, Value.int 203 0, Value.int 0 0, Value.ref 243, Value.int 211 0, Value.int 0 0, Value.ref 248, Value.int 219 0, Value.int 0 0, Value.ref 253, Value.int 225 0, Value.int 0 0, Value.ref 260, Value.int 231 0, Value.int 0 0, Value.ref 267, Value.int 237 0, Value.int 0 0, Value.ref 272] }
noncomputable abbrev ob245_7 (_ : Params) : Obj := { cls := Value.type "tuple", data := Data.seq #[] }
noncomputable abbrev ob246_7 (_ : Params) : Obj := { cls := Value.none, data := Data.fields #[] }
noncomputable abbrev ob247_7 (_ : Params) : Obj := { cls := Value.none, data := Data.func { name := Str.ofString "_law_right", qualname := Str.ofString "_law_right", params := hA (hSt 52), body := FuncBody.stmts (hB (hSt 52)), scope := hS (hSt 52), globals := 0, closure := [], defaults := Value.none, kwdefaults := Value.none } }
noncomputable abbrev ob248_7 (_ : Params) : Obj := { cls := Value.type "code", data := Data.fields #[Value.str (Str.ofString "_law_right") 525, Value.str (Str.ofString "_law_right") 526, Value.str (Str.ofString "/claim/cut.py") 527, Value.int 211 0, Value.int 2 0, Value.int 0 0, Value.int 0 0, Value.int 3 0, Value.ref 245, Value.bool true, Value.int 181 0, Value.ref 246, Value.none, Value.none, Value.none, Value.ref 247, Value.int 528 0, Value.int 211 0, Value.str (Str.ofString "/claim/cut.py") 529] }
noncomputable abbrev ob249_7 (_ : Params) : Obj := { cls := Value.type "function", data := Data.func { name := Str.ofString "_law_right", qualname := Str.ofString "_law_right", params := hA (hSt 52), body := FuncBody.stmts (hB (hSt 52)), scope := hS (hSt 52), globals := 3, closure := [], defaults := Value.none, kwdefaults := Value.none, pyModule := Value.str (Str.ofString "law_rt0068_01") 486, code := Value.ref 248 } }
noncomputable abbrev ob250_7 (_ : Params) : Obj := { cls := Value.type "tuple", data := Data.seq #[] }
noncomputable abbrev ob251_7 (_ : Params) : Obj := { cls := Value.none, data := Data.fields #[] }
noncomputable abbrev ob252_7 (_ : Params) : Obj := { cls := Value.none, data := Data.func { name := Str.ofString "_law_through", qualname := Str.ofString "_law_through", params := hA (hSt 53), body := FuncBody.stmts (hB (hSt 53)), scope := hS (hSt 53), globals := 0, closure := [], defaults := Value.none, kwdefaults := Value.none } }
noncomputable abbrev ob253_7 (_ : Params) : Obj := { cls := Value.type "code", data := Data.fields #[Value.str (Str.ofString "_law_through") 531, Value.str (Str.ofString "_law_through") 532, Value.str (Str.ofString "/claim/cut.py") 533, Value.int 219 0, Value.int 2 0, Value.int 0 0, Value.int 0 0, Value.int 3 0, Value.ref 250, Value.bool true, Value.int 181 0, Value.ref 251, Value.none, Value.none, Value.none, Value.ref 252, Value.int 534 0, Value.int 219 0, Value.str (Str.ofString "/claim/cut.py") 535] }
noncomputable abbrev ob254_7 (_ : Params) : Obj := { cls := Value.type "function", data := Data.func { name := Str.ofString "_law_through", qualname := Str.ofString "_law_through", params := hA (hSt 53), body := FuncBody.stmts (hB (hSt 53)), scope := hS (hSt 53), globals := 3, closure := [], defaults := Value.none, kwdefaults := Value.none, pyModule := Value.str (Str.ofString "law_rt0068_01") 486, code := Value.ref 253 } }
noncomputable abbrev ob255_7 (_ : Params) : Obj := { cls := Value.type "tuple", data := Data.seq #[] }
noncomputable abbrev ob256_7 (_ : Params) : Obj := { cls := Value.none, data := Data.fields #[] }
noncomputable abbrev ob257_7 (_ : Params) : Obj := { cls := Value.type "tuple", data := Data.seq #[Value.str (Str.ofString "entries") 540, Value.str (Str.ofString "texts") 541, Value.str (Str.ofString "path") 542, Value.str (Str.ofString "kind") 543, Value.str (Str.ofString "bits") 544, Value.str (Str.ofString "above") 545, Value.str (Str.ofString "laid") 546] }
noncomputable abbrev ob258_7 (_ : Params) : Obj := { cls := Value.type "tuple", data := Data.seq #[] }
noncomputable abbrev ob259_7 (_ : Params) : Obj := { cls := Value.none, data := Data.func { name := Str.ofString "_law_laid", qualname := Str.ofString "_law_laid", params := hA (hSt 54), body := FuncBody.stmts (hB (hSt 54)), scope := hS (hSt 54), globals := 0, closure := [], defaults := Value.none, kwdefaults := Value.none } }
noncomputable abbrev ob260_7 (_ : Params) : Obj := { cls := Value.type "code", data := Data.fields #[Value.str (Str.ofString "_law_laid") 537, Value.str (Str.ofString "_law_laid") 538, Value.str (Str.ofString "/claim/cut.py") 539, Value.int 225 0, Value.int 1 0, Value.int 0 0, Value.int 0 0, Value.int 3 0, Value.ref 255, Value.bool true, Value.int 181 0, Value.ref 256, Value.none, Value.ref 257, Value.ref 258, Value.ref 259, Value.int 547 0, Value.int 225 0, Value.str (Str.ofString "/claim/cut.py") 548] }
noncomputable abbrev ob261_7 (_ : Params) : Obj := { cls := Value.type "function", data := Data.func { name := Str.ofString "_law_laid", qualname := Str.ofString "_law_laid", params := hA (hSt 54), body := FuncBody.stmts (hB (hSt 54)), scope := hS (hSt 54), globals := 3, closure := [], defaults := Value.none, kwdefaults := Value.none, pyModule := Value.str (Str.ofString "law_rt0068_01") 486, code := Value.ref 260 } }
noncomputable abbrev ob262_7 (_ : Params) : Obj := { cls := Value.type "tuple", data := Data.seq #[] }
noncomputable abbrev ob263_7 (_ : Params) : Obj := { cls := Value.none, data := Data.fields #[] }
noncomputable abbrev ob264_7 (_ : Params) : Obj := { cls := Value.type "tuple", data := Data.seq #[Value.str (Str.ofString "entries") 553, Value.str (Str.ofString "k") 554, Value.str (Str.ofString "opened") 555] }
noncomputable abbrev ob265_7 (_ : Params) : Obj := { cls := Value.type "tuple", data := Data.seq #[] }
noncomputable abbrev ob266_7 (_ : Params) : Obj := { cls := Value.none, data := Data.func { name := Str.ofString "_law_open", qualname := Str.ofString "_law_open", params := hA (hSt 55), body := FuncBody.stmts (hB (hSt 55)), scope := hS (hSt 55), globals := 0, closure := [], defaults := Value.none, kwdefaults := Value.none } }
noncomputable abbrev ob267_7 (_ : Params) : Obj := { cls := Value.type "code", data := Data.fields #[Value.str (Str.ofString "_law_open") 550, Value.str (Str.ofString "_law_open") 551, Value.str (Str.ofString "/claim/cut.py") 552, Value.int 231 0, Value.int 2 0, Value.int 0 0, Value.int 0 0, Value.int 3 0, Value.ref 262, Value.bool true, Value.int 181 0, Value.ref 263, Value.none, Value.ref 264, Value.ref 265, Value.ref 266, Value.int 556 0, Value.int 231 0, Value.str (Str.ofString "/claim/cut.py") 557] }
noncomputable abbrev ob268_7 (_ : Params) : Obj := { cls := Value.type "function", data := Data.func { name := Str.ofString "_law_open", qualname := Str.ofString "_law_open", params := hA (hSt 55), body := FuncBody.stmts (hB (hSt 55)), scope := hS (hSt 55), globals := 3, closure := [], defaults := Value.none, kwdefaults := Value.none, pyModule := Value.str (Str.ofString "law_rt0068_01") 486, code := Value.ref 267 } }
noncomputable abbrev ob269_7 (_ : Params) : Obj := { cls := Value.type "tuple", data := Data.seq #[] }
noncomputable abbrev ob270_7 (_ : Params) : Obj := { cls := Value.none, data := Data.fields #[] }
noncomputable abbrev ob271_7 (_ : Params) : Obj := { cls := Value.none, data := Data.func { name := Str.ofString "law", qualname := Str.ofString "law", params := hA (hSt 56), body := FuncBody.stmts (hB (hSt 56)), scope := hS (hSt 56), globals := 0, closure := [], defaults := Value.none, kwdefaults := Value.none } }
noncomputable abbrev ob272_7 (_ : Params) : Obj := { cls := Value.type "code", data := Data.fields #[Value.str (Str.ofString "law") 559, Value.str (Str.ofString "law") 560, Value.str (Str.ofString "/claim/cut.py") 561, Value.int 237 0, Value.int 1 0, Value.int 0 0, Value.int 0 0, Value.int 3 0, Value.ref 269, Value.bool true, Value.int 181 0, Value.ref 270, Value.none, Value.none, Value.none, Value.ref 271, Value.int 562 0, Value.int 237 0, Value.str (Str.ofString "/claim/cut.py") 563] }
noncomputable abbrev ob273_7 (_ : Params) : Obj := { cls := Value.type "function", data := Data.func { name := Str.ofString "law", qualname := Str.ofString "law", params := hA (hSt 56), body := FuncBody.stmts (hB (hSt 56)), scope := hS (hSt 56), globals := 3, closure := [], defaults := Value.none, kwdefaults := Value.none, pyModule := Value.str (Str.ofString "law_rt0068_01") 486, code := Value.ref 272 } }
noncomputable abbrev zE : Env := { scope := hP.main.scope, locals := mainNs, globals := mainNs, cells := [], code := Value.ref 13, frame := some 14 }
noncomputable abbrev zC : Code := .body (behindTheImports hP) zE
noncomputable abbrev zq : Pos := { line := 0, col := 0, endLine := 0, endCol := 0 }
noncomputable abbrev zB : List Frame := [topFrame zq]
noncomputable abbrev zA : Option Value := some (Value.ref 6)
noncomputable abbrev zp0 : Pos := { line := 0, col := 0, endLine := 0, endCol := 0 }
noncomputable abbrev zH0 (P : Params) : Heap := ⟨⟨[boot_o_0 P, boot_o_1 P, boot_o_2 P, boot_o_3 P, boot_o_4 P, boot_o_5 P, boot_o_6 P, boot_o_7 P, boot_o_8 P, boot_o_9 P, boot_o_10 P, ob11_0 P, ob12_0 P, ob13_0 P, ob14_0 P]⟩, { }⟩
noncomputable abbrev zS0 (w : World) (os : OsState) : Shared := ⟨zH0 w.params, Array.mk [], { }, 187, os⟩
noncomputable abbrev zp1 : Pos := { line := 0, col := 0, endLine := 0, endCol := 0 }
noncomputable abbrev zT1 (P : Params) : BT := (.node (boot_o_0 P) (.node (boot_o_1 P) (.node (boot_o_3 P) (.node (boot_o_7 P) .nil .nil) (.node (ob11_0 P) .nil .nil)) (.node (boot_o_5 P) (.node (boot_o_9 P) .nil .nil) (.node (ob13_0 P) .nil .nil))) (.node (boot_o_2 P) (.node (boot_o_4 P) (.node (boot_o_8 P) .nil .nil) (.node (ob12_0 P) .nil .nil)) (.node (boot_o_6 P) (.node (boot_o_10 P) .nil .nil) (.node (ob14_0 P) .nil .nil))))
noncomputable abbrev zU1 (w : World) (os : OsState) : SharedT := ⟨zT1 w.params, 15, { }, Array.mk [], { }, 187, os⟩
noncomputable abbrev zp2 : Pos := { line := 18, col := 0, endLine := 21, endCol := 16 }
noncomputable abbrev zT2 (P : Params) : BT := (.node (boot_o_0 P) (.node (boot_o_1 P) (.node (ob3_2 P) (.node (boot_o_7 P) (.node (ob15_2 P) (.node (ob31_2 P) .nil .nil) (.node (ob47_2 P) .nil .nil)) (.node (ob23_2 P) (.node (ob39_2 P) .nil .nil) .nil)) (.node (ob11_0 P) (.node (ob19_2 P) (.node (ob35_2 P) .nil .nil) (.node (ob51_2 P) .nil .nil)) (.node (ob27_2 P) (.node (ob43_2 P) .nil .nil) .nil))) (.node (boot_o_5 P) (.node (boot_o_9 P) (.node (ob17_2 P) (.node (ob33_2 P) .nil .nil) (.node (ob49_2 P) .nil .nil)) (.node (ob25_2 P) (.node (ob41_2 P) .nil .nil) .nil)) (.node (ob13_0 P) (.node (ob21_2 P) (.node (ob37_2 P) .nil .nil) (.node (ob53_2 P) .nil .nil)) (.node (ob29_2 P) (.node (ob45_2 P) .nil .nil) .nil)))) (.node (boot_o_2 P) (.node (boot_o_4 P) (.node (boot_o_8 P) (.node (ob16_2 P) (.node (ob32_2 P) .nil .nil) (.node (ob48_2 P) .nil .nil)) (.node (ob24_2 P) (.node (ob40_2 P) .nil .nil) .nil)) (.node (ob12_2 P) (.node (ob20_2 P) (.node (ob36_2 P) .nil .nil) (.node (ob52_2 P) .nil .nil)) (.node (ob28_2 P) (.node (ob44_2 P) .nil .nil) .nil))) (.node (boot_o_6 P) (.node (boot_o_10 P) (.node (ob18_2 P) (.node (ob34_2 P) .nil .nil) (.node (ob50_2 P) .nil .nil)) (.node (ob26_2 P) (.node (ob42_2 P) .nil .nil) .nil)) (.node (ob14_0 P) (.node (ob22_2 P) (.node (ob38_2 P) .nil .nil) (.node (ob54_2 P) .nil .nil)) (.node (ob30_2 P) (.node (ob46_2 P) .nil .nil) .nil)))))
noncomputable abbrev zU2 (w : World) (os : OsState) : SharedT := ⟨zT2 w.params, 55, { }, Array.mk [], { }, 244, os⟩
noncomputable abbrev zp3 : Pos := { line := 23, col := 0, endLine := 37, endCol := 16 }
noncomputable abbrev zT3 (P : Params) : BT := (.node (boot_o_0 P) (.node (boot_o_1 P) (.node (ob3_3 P) (.node (boot_o_7 P) (.node (ob15_2 P) (.node (ob31_2 P) (.node (ob63_3 P) .nil .nil) .nil) (.node (ob47_2 P) (.node (ob79_3 P) .nil .nil) .nil)) (.node (ob23_2 P) (.node (ob39_2 P) (.node (ob71_3 P) .nil .nil) .nil) (.node (ob55_3 P) (.node (ob87_3 P) .nil .nil) .nil))) (.node (ob11_0 P) (.node (ob19_2 P) (.node (ob35_2 P) (.node (ob67_3 P) .nil .nil) .nil) (.node (ob51_2 P) (.node (ob83_3 P) .nil .nil) .nil)) (.node (ob27_2 P) (.node (ob43_2 P) (.node (ob75_3 P) .nil .nil) .nil) (.node (ob59_3 P) .nil .nil)))) (.node (boot_o_5 P) (.node (boot_o_9 P) (.node (ob17_2 P) (.node (ob33_2 P) (.node (ob65_3 P) .nil .nil) .nil) (.node (ob49_2 P) (.node (ob81_3 P) .nil .nil) .nil)) (.node (ob25_2 P) (.node (ob41_2 P) (.node (ob73_3 P) .nil .nil) .nil) (.node (ob57_3 P) .nil .nil))) (.node (ob13_0 P) (.node (ob21_2 P) (.node (ob37_2 P) (.node (ob69_3 P) .nil .nil) .nil) (.node (ob53_2 P) (.node (ob85_3 P) .nil .nil) .nil)) (.node (ob29_2 P) (.node (ob45_2 P) (.node (ob77_3 P) .nil .nil) .nil) (.node (ob61_3 P) .nil .nil))))) (.node (boot_o_2 P) (.node (boot_o_4 P) (.node (boot_o_8 P) (.node (ob16_2 P) (.node (ob32_2 P) (.node (ob64_3 P) .nil .nil) .nil) (.node (ob48_2 P) (.node (ob80_3 P) .nil .nil) .nil)) (.node (ob24_2 P) (.node (ob40_2 P) (.node (ob72_3 P) .nil .nil) .nil) (.node (ob56_3 P) .nil .nil))) (.node (ob12_3 P) (.node (ob20_2 P) (.node (ob36_2 P) (.node (ob68_3 P) .nil .nil) .nil) (.node (ob52_3 P) (.node (ob84_3 P) .nil .nil) .nil)) (.node (ob28_2 P) (.node (ob44_2 P) (.node (ob76_3 P) .nil .nil) .nil) (.node (ob60_3 P) .nil .nil)))) (.node (boot_o_6 P) (.node (boot_o_10 P) (.node (ob18_2 P) (.node (ob34_2 P) (.node (ob66_3 P) .nil .nil) .nil) (.node (ob50_2 P) (.node (ob82_3 P) .nil .nil) .nil)) (.node (ob26_2 P) (.node (ob42_2 P) (.node (ob74_3 P) .nil .nil) .nil) (.node (ob58_3 P) .nil .nil))) (.node (ob14_0 P) (.node (ob22_2 P) (.node (ob38_2 P) (.node (ob70_3 P) .nil .nil) .nil) (.node (ob54_2 P) (.node (ob86_3 P) .nil .nil) .nil)) (.node (ob30_2 P) (.node (ob46_2 P) (.node (ob78_3 P) .nil .nil) .nil) (.node (ob62_3 P) .nil .nil))))))
noncomputable abbrev zU3 (w : World) (os : OsState) : SharedT := ⟨zT3 w.params, 88, { }, Array.mk [], { }, 287, os⟩
noncomputable abbrev zp4 : Pos := { line := 141, col := 0, endLine := 142, endCol := 22 }
noncomputable abbrev zT4 (P : Params) : BT := (.node (boot_o_0 P) (.node (boot_o_1 P) (.node (ob3_4 P) (.node (boot_o_7 P) (.node (ob15_2 P) (.node (ob31_2 P) (.node (ob63_3 P) (.node (ob127_4 P) .nil .nil) .nil) (.node (ob95_4 P) .nil .nil)) (.node (ob47_2 P) (.node (ob79_3 P) (.node (ob143_4 P) .nil .nil) .nil) (.node (ob111_4 P) .nil .nil))) (.node (ob23_2 P) (.node (ob39_2 P) (.node (ob71_3 P) (.node (ob135_4 P) .nil .nil) .nil) (.node (ob103_4 P) .nil .nil)) (.node (ob55_3 P) (.node (ob87_3 P) .nil .nil) (.node (ob119_4 P) .nil .nil)))) (.node (ob11_0 P) (.node (ob19_2 P) (.node (ob35_2 P) (.node (ob67_3 P) (.node (ob131_4 P) .nil .nil) .nil) (.node (ob99_4 P) .nil .nil)) (.node (ob51_2 P) (.node (ob83_3 P) (.node (ob147_4 P) .nil .nil) .nil) (.node (ob115_4 P) .nil .nil))) (.node (ob27_2 P) (.node (ob43_2 P) (.node (ob75_3 P) (.node (ob139_4 P) .nil .nil) .nil) (.node (ob107_4 P) .nil .nil)) (.node (ob59_3 P) (.node (ob91_4 P) .nil .nil) (.node (ob123_4 P) .nil .nil))))) (.node (boot_o_5 P) (.node (boot_o_9 P) (.node (ob17_2 P) (.node (ob33_2 P) (.node (ob65_3 P) (.node (ob129_4 P) .nil .nil) .nil) (.node (ob97_4 P) .nil .nil)) (.node (ob49_2 P) (.node (ob81_3 P) (.node (ob145_4 P) .nil .nil) .nil) (.node (ob113_4 P) .nil .nil))) (.node (ob25_2 P) (.node (ob41_2 P) (.node (ob73_3 P) (.node (ob137_4 P) .nil .nil) .nil) (.node (ob105_4 P) .nil .nil)) (.node (ob57_3 P) (.node (ob89_4 P) .nil .nil) (.node (ob121_4 P) .nil .nil)))) (.node (ob13_0 P) (.node (ob21_2 P) (.node (ob37_2 P) (.node (ob69_3 P) (.node (ob133_4 P) .nil .nil) .nil) (.node (ob101_4 P) .nil .nil)) (.node (ob53_2 P) (.node (ob85_3 P) (.node (ob149_4 P) .nil .nil) .nil) (.node (ob117_4 P) .nil .nil))) (.node (ob29_2 P) (.node (ob45_2 P) (.node (ob77_3 P) (.node (ob141_4 P) .nil .nil) .nil) (.node (ob109_4 P) .nil .nil)) (.node (ob61_3 P) (.node (ob93_4 P) .nil .nil) (.node (ob125_4 P) .nil .nil)))))) (.node (boot_o_2 P) (.node (boot_o_4 P) (.node (boot_o_8 P) (.node (ob16_2 P) (.node (ob32_2 P) (.node (ob64_3 P) (.node (ob128_4 P) .nil .nil) .nil) (.node (ob96_4 P) .nil .nil)) (.node (ob48_2 P) (.node (ob80_3 P) (.node (ob144_4 P) .nil .nil) .nil) (.node (ob112_4 P) .nil .nil))) (.node (ob24_2 P) (.node (ob40_2 P) (.node (ob72_3 P) (.node (ob136_4 P) .nil .nil) .nil) (.node (ob104_4 P) .nil .nil)) (.node (ob56_3 P) (.node (ob88_4 P) .nil .nil) (.node (ob120_4 P) .nil .nil)))) (.node (ob12_4 P) (.node (ob20_2 P) (.node (ob36_2 P) (.node (ob68_3 P) (.node (ob132_4 P) .nil .nil) .nil) (.node (ob100_4 P) .nil .nil)) (.node (ob52_3 P) (.node (ob84_3 P) (.node (ob148_4 P) .nil .nil) .nil) (.node (ob116_4 P) .nil .nil))) (.node (ob28_2 P) (.node (ob44_2 P) (.node (ob76_3 P) (.node (ob140_4 P) .nil .nil) .nil) (.node (ob108_4 P) .nil .nil)) (.node (ob60_3 P) (.node (ob92_4 P) .nil .nil) (.node (ob124_4 P) .nil .nil))))) (.node (boot_o_6 P) (.node (boot_o_10 P) (.node (ob18_2 P) (.node (ob34_2 P) (.node (ob66_3 P) (.node (ob130_4 P) .nil .nil) .nil) (.node (ob98_4 P) .nil .nil)) (.node (ob50_2 P) (.node (ob82_3 P) (.node (ob146_4 P) .nil .nil) .nil) (.node (ob114_4 P) .nil .nil))) (.node (ob26_2 P) (.node (ob42_2 P) (.node (ob74_3 P) (.node (ob138_4 P) .nil .nil) .nil) (.node (ob106_4 P) .nil .nil)) (.node (ob58_3 P) (.node (ob90_4 P) .nil .nil) (.node (ob122_4 P) .nil .nil)))) (.node (ob14_0 P) (.node (ob22_2 P) (.node (ob38_2 P) (.node (ob70_3 P) (.node (ob134_4 P) .nil .nil) .nil) (.node (ob102_4 P) .nil .nil)) (.node (ob54_2 P) (.node (ob86_3 P) (.node (ob150_4 P) .nil .nil) .nil) (.node (ob118_4 P) .nil .nil))) (.node (ob30_2 P) (.node (ob46_2 P) (.node (ob78_3 P) (.node (ob142_4 P) .nil .nil) .nil) (.node (ob110_4 P) .nil .nil)) (.node (ob62_3 P) (.node (ob94_4 P) .nil .nil) (.node (ob126_4 P) .nil .nil)))))))
noncomputable abbrev zU4 (w : World) (os : OsState) : SharedT := ⟨zT4 w.params, 151, { }, Array.mk [], { }, 382, os⟩
noncomputable abbrev zp5 : Pos := { line := 169, col := 0, endLine := 169, endCol := 7 }
noncomputable abbrev zT5 (P : Params) : BT := (.node (boot_o_0 P) (.node (boot_o_1 P) (.node (ob3_5 P) (.node (boot_o_7 P) (.node (ob15_2 P) (.node (ob31_2 P) (.node (ob63_3 P) (.node (ob127_4 P) .nil .nil) .nil) (.node (ob95_4 P) (.node (ob159_5 P) .nil .nil) .nil)) (.node (ob47_2 P) (.node (ob79_3 P) (.node (ob143_4 P) .nil .nil) .nil) (.node (ob111_4 P) (.node (ob175_5 P) .nil .nil) .nil))) (.node (ob23_2 P) (.node (ob39_2 P) (.node (ob71_3 P) (.node (ob135_4 P) .nil .nil) .nil) (.node (ob103_4 P) (.node (ob167_5 P) .nil .nil) .nil)) (.node (ob55_3 P) (.node (ob87_3 P) (.node (ob151_5 P) .nil .nil) .nil) (.node (ob119_4 P) .nil .nil)))) (.node (ob11_0 P) (.node (ob19_2 P) (.node (ob35_2 P) (.node (ob67_3 P) (.node (ob131_4 P) .nil .nil) .nil) (.node (ob99_4 P) (.node (ob163_5 P) .nil .nil) .nil)) (.node (ob51_2 P) (.node (ob83_3 P) (.node (ob147_4 P) .nil .nil) .nil) (.node (ob115_4 P) .nil .nil))) (.node (ob27_2 P) (.node (ob43_2 P) (.node (ob75_3 P) (.node (ob139_4 P) .nil .nil) .nil) (.node (ob107_4 P) (.node (ob171_5 P) .nil .nil) .nil)) (.node (ob59_3 P) (.node (ob91_4 P) (.node (ob155_5 P) .nil .nil) .nil) (.node (ob123_4 P) .nil .nil))))) (.node (boot_o_5 P) (.node (boot_o_9 P) (.node (ob17_2 P) (.node (ob33_2 P) (.node (ob65_3 P) (.node (ob129_4 P) .nil .nil) .nil) (.node (ob97_4 P) (.node (ob161_5 P) .nil .nil) .nil)) (.node (ob49_2 P) (.node (ob81_3 P) (.node (ob145_4 P) .nil .nil) .nil) (.node (ob113_4 P) (.node (ob177_5 P) .nil .nil) .nil))) (.node (ob25_2 P) (.node (ob41_2 P) (.node (ob73_3 P) (.node (ob137_4 P) .nil .nil) .nil) (.node (ob105_4 P) (.node (ob169_5 P) .nil .nil) .nil)) (.node (ob57_3 P) (.node (ob89_4 P) (.node (ob153_5 P) .nil .nil) .nil) (.node (ob121_4 P) .nil .nil)))) (.node (ob13_0 P) (.node (ob21_2 P) (.node (ob37_2 P) (.node (ob69_3 P) (.node (ob133_4 P) .nil .nil) .nil) (.node (ob101_4 P) (.node (ob165_5 P) .nil .nil) .nil)) (.node (ob53_2 P) (.node (ob85_3 P) (.node (ob149_4 P) .nil .nil) .nil) (.node (ob117_4 P) .nil .nil))) (.node (ob29_2 P) (.node (ob45_2 P) (.node (ob77_3 P) (.node (ob141_4 P) .nil .nil) .nil) (.node (ob109_4 P) (.node (ob173_5 P) .nil .nil) .nil)) (.node (ob61_3 P) (.node (ob93_4 P) (.node (ob157_5 P) .nil .nil) .nil) (.node (ob125_4 P) .nil .nil)))))) (.node (boot_o_2 P) (.node (boot_o_4 P) (.node (boot_o_8 P) (.node (ob16_2 P) (.node (ob32_2 P) (.node (ob64_3 P) (.node (ob128_4 P) .nil .nil) .nil) (.node (ob96_4 P) (.node (ob160_5 P) .nil .nil) .nil)) (.node (ob48_2 P) (.node (ob80_3 P) (.node (ob144_4 P) .nil .nil) .nil) (.node (ob112_4 P) (.node (ob176_5 P) .nil .nil) .nil))) (.node (ob24_2 P) (.node (ob40_2 P) (.node (ob72_3 P) (.node (ob136_4 P) .nil .nil) .nil) (.node (ob104_4 P) (.node (ob168_5 P) .nil .nil) .nil)) (.node (ob56_3 P) (.node (ob88_4 P) (.node (ob152_5 P) .nil .nil) .nil) (.node (ob120_4 P) .nil .nil)))) (.node (ob12_5 P) (.node (ob20_2 P) (.node (ob36_2 P) (.node (ob68_3 P) (.node (ob132_4 P) .nil .nil) .nil) (.node (ob100_4 P) (.node (ob164_5 P) .nil .nil) .nil)) (.node (ob52_3 P) (.node (ob84_3 P) (.node (ob148_4 P) .nil .nil) .nil) (.node (ob116_4 P) .nil .nil))) (.node (ob28_2 P) (.node (ob44_2 P) (.node (ob76_3 P) (.node (ob140_4 P) .nil .nil) .nil) (.node (ob108_4 P) (.node (ob172_5 P) .nil .nil) .nil)) (.node (ob60_3 P) (.node (ob92_4 P) (.node (ob156_5 P) .nil .nil) .nil) (.node (ob124_4 P) .nil .nil))))) (.node (boot_o_6 P) (.node (boot_o_10 P) (.node (ob18_2 P) (.node (ob34_2 P) (.node (ob66_3 P) (.node (ob130_4 P) .nil .nil) .nil) (.node (ob98_4 P) (.node (ob162_5 P) .nil .nil) .nil)) (.node (ob50_2 P) (.node (ob82_3 P) (.node (ob146_4 P) .nil .nil) .nil) (.node (ob114_4 P) (.node (ob178_5 P) .nil .nil) .nil))) (.node (ob26_2 P) (.node (ob42_2 P) (.node (ob74_3 P) (.node (ob138_4 P) .nil .nil) .nil) (.node (ob106_4 P) (.node (ob170_5 P) .nil .nil) .nil)) (.node (ob58_3 P) (.node (ob90_4 P) (.node (ob154_5 P) .nil .nil) .nil) (.node (ob122_4 P) .nil .nil)))) (.node (ob14_0 P) (.node (ob22_2 P) (.node (ob38_2 P) (.node (ob70_3 P) (.node (ob134_4 P) .nil .nil) .nil) (.node (ob102_4 P) (.node (ob166_5 P) .nil .nil) .nil)) (.node (ob54_2 P) (.node (ob86_3 P) (.node (ob150_4 P) .nil .nil) .nil) (.node (ob118_4 P) .nil .nil))) (.node (ob30_2 P) (.node (ob46_2 P) (.node (ob78_3 P) (.node (ob142_4 P) .nil .nil) .nil) (.node (ob110_4 P) (.node (ob174_5 P) .nil .nil) .nil)) (.node (ob62_3 P) (.node (ob94_4 P) (.node (ob158_5 P) .nil .nil) .nil) (.node (ob126_4 P) .nil .nil)))))))
noncomputable abbrev zU5 (w : World) (os : OsState) : SharedT := ⟨zT5 w.params, 179, { }, Array.mk [], { }, 448, os⟩
noncomputable abbrev zp6 : Pos := { line := 203, col := 0, endLine := 210, endCol := 56 }
noncomputable abbrev zT6 (P : Params) : BT := (.node (boot_o_0 P) (.node (boot_o_1 P) (.node (ob3_6 P) (.node (boot_o_7 P) (.node (ob15_2 P) (.node (ob31_2 P) (.node (ob63_3 P) (.node (ob127_4 P) .nil .nil) (.node (ob191_6 P) .nil .nil)) (.node (ob95_4 P) (.node (ob159_5 P) .nil .nil) (.node (ob223_6 P) .nil .nil))) (.node (ob47_2 P) (.node (ob79_3 P) (.node (ob143_4 P) .nil .nil) (.node (ob207_6 P) .nil .nil)) (.node (ob111_4 P) (.node (ob175_5 P) .nil .nil) (.node (ob239_6 P) .nil .nil)))) (.node (ob23_2 P) (.node (ob39_2 P) (.node (ob71_3 P) (.node (ob135_4 P) .nil .nil) (.node (ob199_6 P) .nil .nil)) (.node (ob103_4 P) (.node (ob167_5 P) .nil .nil) (.node (ob231_6 P) .nil .nil))) (.node (ob55_3 P) (.node (ob87_3 P) (.node (ob151_5 P) .nil .nil) (.node (ob215_6 P) .nil .nil)) (.node (ob119_4 P) (.node (ob183_6 P) .nil .nil) .nil)))) (.node (ob11_0 P) (.node (ob19_2 P) (.node (ob35_2 P) (.node (ob67_3 P) (.node (ob131_4 P) .nil .nil) (.node (ob195_6 P) .nil .nil)) (.node (ob99_4 P) (.node (ob163_5 P) .nil .nil) (.node (ob227_6 P) .nil .nil))) (.node (ob51_2 P) (.node (ob83_3 P) (.node (ob147_4 P) .nil .nil) (.node (ob211_6 P) .nil .nil)) (.node (ob115_4 P) (.node (ob179_6 P) .nil .nil) (.node (ob243_6 P) .nil .nil)))) (.node (ob27_2 P) (.node (ob43_2 P) (.node (ob75_3 P) (.node (ob139_4 P) .nil .nil) (.node (ob203_6 P) .nil .nil)) (.node (ob107_4 P) (.node (ob171_5 P) .nil .nil) (.node (ob235_6 P) .nil .nil))) (.node (ob59_3 P) (.node (ob91_4 P) (.node (ob155_5 P) .nil .nil) (.node (ob219_6 P) .nil .nil)) (.node (ob123_4 P) (.node (ob187_6 P) .nil .nil) .nil))))) (.node (boot_o_5 P) (.node (boot_o_9 P) (.node (ob17_2 P) (.node (ob33_2 P) (.node (ob65_3 P) (.node (ob129_4 P) .nil .nil) (.node (ob193_6 P) .nil .nil)) (.node (ob97_4 P) (.node (ob161_5 P) .nil .nil) (.node (ob225_6 P) .nil .nil))) (.node (ob49_2 P) (.node (ob81_3 P) (.node (ob145_4 P) .nil .nil) (.node (ob209_6 P) .nil .nil)) (.node (ob113_4 P) (.node (ob177_5 P) .nil .nil) (.node (ob241_6 P) .nil .nil)))) (.node (ob25_2 P) (.node (ob41_2 P) (.node (ob73_3 P) (.node (ob137_4 P) .nil .nil) (.node (ob201_6 P) .nil .nil)) (.node (ob105_4 P) (.node (ob169_5 P) .nil .nil) (.node (ob233_6 P) .nil .nil))) (.node (ob57_3 P) (.node (ob89_4 P) (.node (ob153_5 P) .nil .nil) (.node (ob217_6 P) .nil .nil)) (.node (ob121_4 P) (.node (ob185_6 P) .nil .nil) .nil)))) (.node (ob13_0 P) (.node (ob21_2 P) (.node (ob37_2 P) (.node (ob69_3 P) (.node (ob133_4 P) .nil .nil) (.node (ob197_6 P) .nil .nil)) (.node (ob101_4 P) (.node (ob165_5 P) .nil .nil) (.node (ob229_6 P) .nil .nil))) (.node (ob53_2 P) (.node (ob85_3 P) (.node (ob149_4 P) .nil .nil) (.node (ob213_6 P) .nil .nil)) (.node (ob117_4 P) (.node (ob181_6 P) .nil .nil) .nil))) (.node (ob29_2 P) (.node (ob45_2 P) (.node (ob77_3 P) (.node (ob141_4 P) .nil .nil) (.node (ob205_6 P) .nil .nil)) (.node (ob109_4 P) (.node (ob173_5 P) .nil .nil) (.node (ob237_6 P) .nil .nil))) (.node (ob61_3 P) (.node (ob93_4 P) (.node (ob157_5 P) .nil .nil) (.node (ob221_6 P) .nil .nil)) (.node (ob125_4 P) (.node (ob189_6 P) .nil .nil) .nil)))))) (.node (boot_o_2 P) (.node (boot_o_4 P) (.node (boot_o_8 P) (.node (ob16_2 P) (.node (ob32_2 P) (.node (ob64_3 P) (.node (ob128_4 P) .nil .nil) (.node (ob192_6 P) .nil .nil)) (.node (ob96_4 P) (.node (ob160_5 P) .nil .nil) (.node (ob224_6 P) .nil .nil))) (.node (ob48_2 P) (.node (ob80_3 P) (.node (ob144_4 P) .nil .nil) (.node (ob208_6 P) .nil .nil)) (.node (ob112_4 P) (.node (ob176_5 P) .nil .nil) (.node (ob240_6 P) .nil .nil)))) (.node (ob24_2 P) (.node (ob40_2 P) (.node (ob72_3 P) (.node (ob136_4 P) .nil .nil) (.node (ob200_6 P) .nil .nil)) (.node (ob104_4 P) (.node (ob168_5 P) .nil .nil) (.node (ob232_6 P) .nil .nil))) (.node (ob56_3 P) (.node (ob88_4 P) (.node (ob152_5 P) .nil .nil) (.node (ob216_6 P) .nil .nil)) (.node (ob120_4 P) (.node (ob184_6 P) .nil .nil) .nil)))) (.node (ob12_6 P) (.node (ob20_2 P) (.node (ob36_2 P) (.node (ob68_3 P) (.node (ob132_4 P) .nil .nil) (.node (ob196_6 P) .nil .nil)) (.node (ob100_4 P) (.node (ob164_5 P) .nil .nil) (.node (ob228_6 P) .nil .nil))) (.node (ob52_3 P) (.node (ob84_3 P) (.node (ob148_4 P) .nil .nil) (.node (ob212_6 P) .nil .nil)) (.node (ob116_4 P) (.node (ob180_6 P) .nil .nil) (.node (ob244_6 P) .nil .nil)))) (.node (ob28_2 P) (.node (ob44_2 P) (.node (ob76_3 P) (.node (ob140_4 P) .nil .nil) (.node (ob204_6 P) .nil .nil)) (.node (ob108_4 P) (.node (ob172_5 P) .nil .nil) (.node (ob236_6 P) .nil .nil))) (.node (ob60_3 P) (.node (ob92_4 P) (.node (ob156_5 P) .nil .nil) (.node (ob220_6 P) .nil .nil)) (.node (ob124_4 P) (.node (ob188_6 P) .nil .nil) .nil))))) (.node (boot_o_6 P) (.node (boot_o_10 P) (.node (ob18_2 P) (.node (ob34_2 P) (.node (ob66_3 P) (.node (ob130_4 P) .nil .nil) (.node (ob194_6 P) .nil .nil)) (.node (ob98_4 P) (.node (ob162_5 P) .nil .nil) (.node (ob226_6 P) .nil .nil))) (.node (ob50_2 P) (.node (ob82_3 P) (.node (ob146_4 P) .nil .nil) (.node (ob210_6 P) .nil .nil)) (.node (ob114_4 P) (.node (ob178_5 P) .nil .nil) (.node (ob242_6 P) .nil .nil)))) (.node (ob26_2 P) (.node (ob42_2 P) (.node (ob74_3 P) (.node (ob138_4 P) .nil .nil) (.node (ob202_6 P) .nil .nil)) (.node (ob106_4 P) (.node (ob170_5 P) .nil .nil) (.node (ob234_6 P) .nil .nil))) (.node (ob58_3 P) (.node (ob90_4 P) (.node (ob154_5 P) .nil .nil) (.node (ob218_6 P) .nil .nil)) (.node (ob122_4 P) (.node (ob186_6 P) .nil .nil) .nil)))) (.node (ob14_0 P) (.node (ob22_2 P) (.node (ob38_2 P) (.node (ob70_3 P) (.node (ob134_4 P) .nil .nil) (.node (ob198_6 P) .nil .nil)) (.node (ob102_4 P) (.node (ob166_5 P) .nil .nil) (.node (ob230_6 P) .nil .nil))) (.node (ob54_2 P) (.node (ob86_3 P) (.node (ob150_4 P) .nil .nil) (.node (ob214_6 P) .nil .nil)) (.node (ob118_4 P) (.node (ob182_6 P) .nil .nil) .nil))) (.node (ob30_2 P) (.node (ob46_2 P) (.node (ob78_3 P) (.node (ob142_4 P) .nil .nil) (.node (ob206_6 P) .nil .nil)) (.node (ob110_4 P) (.node (ob174_5 P) .nil .nil) (.node (ob238_6 P) .nil .nil))) (.node (ob62_3 P) (.node (ob94_4 P) (.node (ob158_5 P) .nil .nil) (.node (ob222_6 P) .nil .nil)) (.node (ob126_4 P) (.node (ob190_6 P) .nil .nil) .nil)))))))
noncomputable abbrev zU6 (w : World) (os : OsState) : SharedT := ⟨zT6 w.params, 245, { }, Array.mk [], { }, 525, os⟩
noncomputable abbrev zp7 : Pos := { line := 237, col := 0, endLine := 244, endCol := 119 }
noncomputable abbrev zT7 (P : Params) : BT := (.node (boot_o_0 P) (.node (boot_o_1 P) (.node (ob3_7 P) (.node (boot_o_7 P) (.node (ob15_2 P) (.node (ob31_2 P) (.node (ob63_3 P) (.node (ob127_4 P) (.node (ob255_7 P) .nil .nil) .nil) (.node (ob191_6 P) .nil .nil)) (.node (ob95_4 P) (.node (ob159_5 P) .nil .nil) (.node (ob223_6 P) .nil .nil))) (.node (ob47_2 P) (.node (ob79_3 P) (.node (ob143_4 P) (.node (ob271_7 P) .nil .nil) .nil) (.node (ob207_6 P) .nil .nil)) (.node (ob111_4 P) (.node (ob175_5 P) .nil .nil) (.node (ob239_6 P) .nil .nil)))) (.node (ob23_2 P) (.node (ob39_2 P) (.node (ob71_3 P) (.node (ob135_4 P) (.node (ob263_7 P) .nil .nil) .nil) (.node (ob199_6 P) .nil .nil)) (.node (ob103_4 P) (.node (ob167_5 P) .nil .nil) (.node (ob231_6 P) .nil .nil))) (.node (ob55_3 P) (.node (ob87_3 P) (.node (ob151_5 P) .nil .nil) (.node (ob215_6 P) .nil .nil)) (.node (ob119_4 P) (.node (ob183_6 P) .nil .nil) (.node (ob247_7 P) .nil .nil))))) (.node (ob11_0 P) (.node (ob19_2 P) (.node (ob35_2 P) (.node (ob67_3 P) (.node (ob131_4 P) (.node (ob259_7 P) .nil .nil) .nil) (.node (ob195_6 P) .nil .nil)) (.node (ob99_4 P) (.node (ob163_5 P) .nil .nil) (.node (ob227_6 P) .nil .nil))) (.node (ob51_2 P) (.node (ob83_3 P) (.node (ob147_4 P) .nil .nil) (.node (ob211_6 P) .nil .nil)) (.node (ob115_4 P) (.node (ob179_6 P) .nil .nil) (.node (ob243_6 P) .nil .nil)))) (.node (ob27_2 P) (.node (ob43_2 P) (.node (ob75_3 P) (.node (ob139_4 P) (.node (ob267_7 P) .nil .nil) .nil) (.node (ob203_6 P) .nil .nil)) (.node (ob107_4 P) (.node (ob171_5 P) .nil .nil) (.node (ob235_6 P) .nil .nil))) (.node (ob59_3 P) (.node (ob91_4 P) (.node (ob155_5 P) .nil .nil) (.node (ob219_6 P) .nil .nil)) (.node (ob123_4 P) (.node (ob187_6 P) .nil .nil) (.node (ob251_7 P) .nil .nil)))))) (.node (boot_o_5 P) (.node (boot_o_9 P) (.node (ob17_2 P) (.node (ob33_2 P) (.node (ob65_3 P) (.node (ob129_4 P) (.node (ob257_7 P) .nil .nil) .nil) (.node (ob193_6 P) .nil .nil)) (.node (ob97_4 P) (.node (ob161_5 P) .nil .nil) (.node (ob225_6 P) .nil .nil))) (.node (ob49_2 P) (.node (ob81_3 P) (.node (ob145_4 P) (.node (ob273_7 P) .nil .nil) .nil) (.node (ob209_6 P) .nil .nil)) (.node (ob113_4 P) (.node (ob177_5 P) .nil .nil) (.node (ob241_6 P) .nil .nil)))) (.node (ob25_2 P) (.node (ob41_2 P) (.node (ob73_3 P) (.node (ob137_4 P) (.node (ob265_7 P) .nil .nil) .nil) (.node (ob201_6 P) .nil .nil)) (.node (ob105_4 P) (.node (ob169_5 P) .nil .nil) (.node (ob233_6 P) .nil .nil))) (.node (ob57_3 P) (.node (ob89_4 P) (.node (ob153_5 P) .nil .nil) (.node (ob217_6 P) .nil .nil)) (.node (ob121_4 P) (.node (ob185_6 P) .nil .nil) (.node (ob249_7 P) .nil .nil))))) (.node (ob13_0 P) (.node (ob21_2 P) (.node (ob37_2 P) (.node (ob69_3 P) (.node (ob133_4 P) (.node (ob261_7 P) .nil .nil) .nil) (.node (ob197_6 P) .nil .nil)) (.node (ob101_4 P) (.node (ob165_5 P) .nil .nil) (.node (ob229_6 P) .nil .nil))) (.node (ob53_2 P) (.node (ob85_3 P) (.node (ob149_4 P) .nil .nil) (.node (ob213_6 P) .nil .nil)) (.node (ob117_4 P) (.node (ob181_6 P) .nil .nil) (.node (ob245_7 P) .nil .nil)))) (.node (ob29_2 P) (.node (ob45_2 P) (.node (ob77_3 P) (.node (ob141_4 P) (.node (ob269_7 P) .nil .nil) .nil) (.node (ob205_6 P) .nil .nil)) (.node (ob109_4 P) (.node (ob173_5 P) .nil .nil) (.node (ob237_6 P) .nil .nil))) (.node (ob61_3 P) (.node (ob93_4 P) (.node (ob157_5 P) .nil .nil) (.node (ob221_6 P) .nil .nil)) (.node (ob125_4 P) (.node (ob189_6 P) .nil .nil) (.node (ob253_7 P) .nil .nil))))))) (.node (boot_o_2 P) (.node (boot_o_4 P) (.node (boot_o_8 P) (.node (ob16_2 P) (.node (ob32_2 P) (.node (ob64_3 P) (.node (ob128_4 P) (.node (ob256_7 P) .nil .nil) .nil) (.node (ob192_6 P) .nil .nil)) (.node (ob96_4 P) (.node (ob160_5 P) .nil .nil) (.node (ob224_6 P) .nil .nil))) (.node (ob48_2 P) (.node (ob80_3 P) (.node (ob144_4 P) (.node (ob272_7 P) .nil .nil) .nil) (.node (ob208_6 P) .nil .nil)) (.node (ob112_4 P) (.node (ob176_5 P) .nil .nil) (.node (ob240_6 P) .nil .nil)))) (.node (ob24_2 P) (.node (ob40_2 P) (.node (ob72_3 P) (.node (ob136_4 P) (.node (ob264_7 P) .nil .nil) .nil) (.node (ob200_6 P) .nil .nil)) (.node (ob104_4 P) (.node (ob168_5 P) .nil .nil) (.node (ob232_6 P) .nil .nil))) (.node (ob56_3 P) (.node (ob88_4 P) (.node (ob152_5 P) .nil .nil) (.node (ob216_6 P) .nil .nil)) (.node (ob120_4 P) (.node (ob184_6 P) .nil .nil) (.node (ob248_7 P) .nil .nil))))) (.node (ob12_7 P) (.node (ob20_2 P) (.node (ob36_2 P) (.node (ob68_3 P) (.node (ob132_4 P) (.node (ob260_7 P) .nil .nil) .nil) (.node (ob196_6 P) .nil .nil)) (.node (ob100_4 P) (.node (ob164_5 P) .nil .nil) (.node (ob228_6 P) .nil .nil))) (.node (ob52_3 P) (.node (ob84_3 P) (.node (ob148_4 P) .nil .nil) (.node (ob212_6 P) .nil .nil)) (.node (ob116_4 P) (.node (ob180_6 P) .nil .nil) (.node (ob244_6 P) .nil .nil)))) (.node (ob28_2 P) (.node (ob44_2 P) (.node (ob76_3 P) (.node (ob140_4 P) (.node (ob268_7 P) .nil .nil) .nil) (.node (ob204_6 P) .nil .nil)) (.node (ob108_4 P) (.node (ob172_5 P) .nil .nil) (.node (ob236_6 P) .nil .nil))) (.node (ob60_3 P) (.node (ob92_4 P) (.node (ob156_5 P) .nil .nil) (.node (ob220_6 P) .nil .nil)) (.node (ob124_4 P) (.node (ob188_6 P) .nil .nil) (.node (ob252_7 P) .nil .nil)))))) (.node (boot_o_6 P) (.node (boot_o_10 P) (.node (ob18_2 P) (.node (ob34_2 P) (.node (ob66_3 P) (.node (ob130_4 P) (.node (ob258_7 P) .nil .nil) .nil) (.node (ob194_6 P) .nil .nil)) (.node (ob98_4 P) (.node (ob162_5 P) .nil .nil) (.node (ob226_6 P) .nil .nil))) (.node (ob50_2 P) (.node (ob82_3 P) (.node (ob146_4 P) .nil .nil) (.node (ob210_6 P) .nil .nil)) (.node (ob114_4 P) (.node (ob178_5 P) .nil .nil) (.node (ob242_6 P) .nil .nil)))) (.node (ob26_2 P) (.node (ob42_2 P) (.node (ob74_3 P) (.node (ob138_4 P) (.node (ob266_7 P) .nil .nil) .nil) (.node (ob202_6 P) .nil .nil)) (.node (ob106_4 P) (.node (ob170_5 P) .nil .nil) (.node (ob234_6 P) .nil .nil))) (.node (ob58_3 P) (.node (ob90_4 P) (.node (ob154_5 P) .nil .nil) (.node (ob218_6 P) .nil .nil)) (.node (ob122_4 P) (.node (ob186_6 P) .nil .nil) (.node (ob250_7 P) .nil .nil))))) (.node (ob14_0 P) (.node (ob22_2 P) (.node (ob38_2 P) (.node (ob70_3 P) (.node (ob134_4 P) (.node (ob262_7 P) .nil .nil) .nil) (.node (ob198_6 P) .nil .nil)) (.node (ob102_4 P) (.node (ob166_5 P) .nil .nil) (.node (ob230_6 P) .nil .nil))) (.node (ob54_2 P) (.node (ob86_3 P) (.node (ob150_4 P) .nil .nil) (.node (ob214_6 P) .nil .nil)) (.node (ob118_4 P) (.node (ob182_6 P) .nil .nil) (.node (ob246_7 P) .nil .nil)))) (.node (ob30_2 P) (.node (ob46_2 P) (.node (ob78_3 P) (.node (ob142_4 P) (.node (ob270_7 P) .nil .nil) .nil) (.node (ob206_6 P) .nil .nil)) (.node (ob110_4 P) (.node (ob174_5 P) .nil .nil) (.node (ob238_6 P) .nil .nil))) (.node (ob62_3 P) (.node (ob94_4 P) (.node (ob158_5 P) .nil .nil) (.node (ob222_6 P) .nil .nil)) (.node (ob126_4 P) (.node (ob190_6 P) .nil .nil) (.node (ob254_7 P) .nil .nil))))))))
noncomputable abbrev zU7 (w : World) (os : OsState) : SharedT := ⟨zT7 w.params, 274, { }, Array.mk [], { }, 565, os⟩
noncomputable abbrev zp8 : Pos := { line := 237, col := 0, endLine := 244, endCol := 119 }
noncomputable abbrev zH8 (P : Params) : Heap := ⟨⟨[boot_o_0 P, boot_o_1 P, boot_o_2 P, ob3_7 P, boot_o_4 P, boot_o_5 P, boot_o_6 P, boot_o_7 P, boot_o_8 P, boot_o_9 P, boot_o_10 P, ob11_0 P, ob12_7 P, ob13_0 P, ob14_0 P, ob15_2 P, ob16_2 P, ob17_2 P, ob18_2 P, ob19_2 P, ob20_2 P, ob21_2 P, ob22_2 P, ob23_2 P, ob24_2 P, ob25_2 P, ob26_2 P, ob27_2 P, ob28_2 P, ob29_2 P, ob30_2 P, ob31_2 P, ob32_2 P, ob33_2 P, ob34_2 P, ob35_2 P, ob36_2 P, ob37_2 P, ob38_2 P, ob39_2 P, ob40_2 P, ob41_2 P, ob42_2 P, ob43_2 P, ob44_2 P, ob45_2 P, ob46_2 P, ob47_2 P, ob48_2 P, ob49_2 P, ob50_2 P, ob51_2 P, ob52_3 P, ob53_2 P, ob54_2 P, ob55_3 P, ob56_3 P, ob57_3 P, ob58_3 P, ob59_3 P, ob60_3 P, ob61_3 P, ob62_3 P, ob63_3 P, ob64_3 P, ob65_3 P, ob66_3 P, ob67_3 P, ob68_3 P, ob69_3 P, ob70_3 P, ob71_3 P, ob72_3 P, ob73_3 P, ob74_3 P, ob75_3 P, ob76_3 P, ob77_3 P, ob78_3 P, ob79_3 P, ob80_3 P, ob81_3 P, ob82_3 P, ob83_3 P, ob84_3 P, ob85_3 P, ob86_3 P, ob87_3 P, ob88_4 P, ob89_4 P, ob90_4 P, ob91_4 P, ob92_4 P, ob93_4 P, ob94_4 P, ob95_4 P, ob96_4 P, ob97_4 P, ob98_4 P, ob99_4 P, ob100_4 P, ob101_4 P, ob102_4 P, ob103_4 P, ob104_4 P, ob105_4 P, ob106_4 P, ob107_4 P, ob108_4 P, ob109_4 P, ob110_4 P, ob111_4 P, ob112_4 P, ob113_4 P, ob114_4 P, ob115_4 P, ob116_4 P, ob117_4 P, ob118_4 P, ob119_4 P, ob120_4 P, ob121_4 P, ob122_4 P, ob123_4 P, ob124_4 P, ob125_4 P, ob126_4 P, ob127_4 P, ob128_4 P, ob129_4 P, ob130_4 P, ob131_4 P, ob132_4 P, ob133_4 P, ob134_4 P, ob135_4 P, ob136_4 P, ob137_4 P, ob138_4 P, ob139_4 P, ob140_4 P, ob141_4 P, ob142_4 P, ob143_4 P, ob144_4 P, ob145_4 P, ob146_4 P, ob147_4 P, ob148_4 P, ob149_4 P, ob150_4 P, ob151_5 P, ob152_5 P, ob153_5 P, ob154_5 P, ob155_5 P, ob156_5 P, ob157_5 P, ob158_5 P, ob159_5 P, ob160_5 P, ob161_5 P, ob162_5 P, ob163_5 P, ob164_5 P, ob165_5 P, ob166_5 P, ob167_5 P, ob168_5 P, ob169_5 P, ob170_5 P, ob171_5 P, ob172_5 P, ob173_5 P, ob174_5 P, ob175_5 P, ob176_5 P, ob177_5 P, ob178_5 P, ob179_6 P, ob180_6 P, ob181_6 P, ob182_6 P, ob183_6 P, ob184_6 P, ob185_6 P, ob186_6 P, ob187_6 P, ob188_6 P, ob189_6 P, ob190_6 P, ob191_6 P, ob192_6 P, ob193_6 P, ob194_6 P, ob195_6 P, ob196_6 P, ob197_6 P, ob198_6 P, ob199_6 P, ob200_6 P, ob201_6 P, ob202_6 P, ob203_6 P, ob204_6 P, ob205_6 P, ob206_6 P, ob207_6 P, ob208_6 P, ob209_6 P, ob210_6 P, ob211_6 P, ob212_6 P, ob213_6 P, ob214_6 P, ob215_6 P, ob216_6 P, ob217_6 P, ob218_6 P, ob219_6 P, ob220_6 P, ob221_6 P, ob222_6 P, ob223_6 P, ob224_6 P, ob225_6 P, ob226_6 P, ob227_6 P, ob228_6 P, ob229_6 P, ob230_6 P, ob231_6 P, ob232_6 P, ob233_6 P, ob234_6 P, ob235_6 P, ob236_6 P, ob237_6 P, ob238_6 P, ob239_6 P, ob240_6 P, ob241_6 P, ob242_6 P, ob243_6 P, ob244_6 P, ob245_7 P, ob246_7 P, ob247_7 P, ob248_7 P, ob249_7 P, ob250_7 P, ob251_7 P, ob252_7 P, ob253_7 P, ob254_7 P, ob255_7 P, ob256_7 P, ob257_7 P, ob258_7 P, ob259_7 P, ob260_7 P, ob261_7 P, ob262_7 P, ob263_7 P, ob264_7 P, ob265_7 P, ob266_7 P, ob267_7 P, ob268_7 P, ob269_7 P, ob270_7 P, ob271_7 P, ob272_7 P, ob273_7 P]⟩, { }⟩
noncomputable abbrev zS8 (w : World) (os : OsState) : Shared := ⟨zH8 w.params, Array.mk [], { }, 565, os⟩
theorem z_open : ∀ w : World, (fencedOpening treeTable hP w 3578).map (fun s => (s.heap, s.gens, s.drawn, s.toks)) = some (boot_heap w.params, Array.mk [], boot_drawn, boot_toks) :=
  boot_open (by kernel_rfl) (by decide) fun s => by kernel_rfl
theorem z_size : ∀ w : World, ((boot_heap w.params).isNs mainGlobals && (Array.mk [] : Array GenState).size == 0, (boot_heap w.params).objs.size, (boot_heap w.params).nsMap mainGlobals "__annotations__") = (true, 11, zA) := fun w => by kernel_rfl
theorem z_pre (w : World) (os : OsState) : topGo treeTable hP w 11 zA 12 ⟨boot_heap w.params, Array.mk [], boot_drawn, boot_toks, os⟩ (topStub hP) = some (zS0 w os, ⟨denote treeTable zC, zC, zp0, zB⟩) := by kernel_rfl
theorem z_block (w : World) (os : OsState) : segRun treeTable hP w 11 zA 1 1 (zS0 w os) (blockOf (behindTheImports hP) zE zC zp0 zB) = some (.next, (zU1 w os).abs, zC, zp1) := by kernel_rfl
theorem z_g0 (w : World) (os : OsState) : segRunT treeTable hP w 11 zA 1 330 (zU1 w os) (piecesOf (((behindTheImports hP).drop 0).take 7) zE zC zp1 zB) = some (.next, zU2 w os, zC, zp2) := by kernel_rfl
theorem z_g1 (w : World) (os : OsState) : segRunT treeTable hP w 11 zA 1 319 (zU2 w os) (piecesOf (((behindTheImports hP).drop 7).take 2) zE zC zp2 zB) = some (.next, zU3 w os, zC, zp3) := by kernel_rfl
theorem z_g2 (w : World) (os : OsState) : segRunT treeTable hP w 11 zA 1 322 (zU3 w os) (piecesOf (((behindTheImports hP).drop 9).take 13) zE zC zp3 zB) = some (.next, zU4 w os, zC, zp4) := by kernel_rfl
theorem z_g3 (w : World) (os : OsState) : segRunT treeTable hP w 11 zA 1 288 (zU4 w os) (piecesOf (((behindTheImports hP).drop 22).take 23) zE zC zp4 zB) = some (.next, zU5 w os, zC, zp5) := by kernel_rfl
theorem z_g4 (w : World) (os : OsState) : segRunT treeTable hP w 11 zA 1 328 (zU5 w os) (piecesOf (((behindTheImports hP).drop 45).take 7) zE zC zp5 zB) = some (.next, zU6 w os, zC, zp6) := by kernel_rfl
theorem z_g5 (w : World) (os : OsState) : segRunT treeTable hP w 11 zA 1 145 (zU6 w os) (piecesOf (((behindTheImports hP).drop 52).take 5) zE zC zp6 zB) = some (.next, zU7 w os, zC, zp7) := by kernel_rfl
theorem z_fin (w : World) (os : OsState) : topRun treeTable hP w 11 zA 2 (zU7 w os).abs ⟨doneF .next, zC, zp7, zB⟩ = some (zS8 w os) := by kernel_rfl
theorem z_grp {w : World} {n N a k m : Nat} {s s' : SharedT} {r : Shared} {p p' : Pos} (h : segRunT treeTable hP w 11 zA 1 n s (piecesOf (((behindTheImports hP).drop a).take k) zE zC p zB) = some (.next, s', zC, p'))
    (e : a + k = m) (g : topRun treeTable hP w 11 zA N s'.abs (restOf ((behindTheImports hP).drop m) zE zC p' zB) = some r) : topRun treeTable hP w 11 zA (n + N) s.abs (restOf ((behindTheImports hP).drop a) zE zC p zB) = some r := by
  subst e
  have e : (behindTheImports hP).drop a = ((behindTheImports hP).drop a).take k ++ (behindTheImports hP).drop (a + k) := by rw [← List.drop_drop, List.take_append_drop]
  rw [e]
  exact piece_app (segRun_of h) g
theorem z_end : (behindTheImports hP).drop 57 = [] := by kernel_rfl
theorem z_run (w : World) (os : OsState) : topRun treeTable hP w 11 zA (12 + (1 + (330 + (319 + (322 + (288 + (328 + (145 + 2)))))))) ⟨boot_heap w.params, Array.mk [], boot_drawn, boot_toks, os⟩ (topStub hP) = some (zS8 w os) :=
  go_top (z_pre w os) (piece_block (z_block w os) (z_grp (z_g0 w os) rfl (z_grp (z_g1 w os) rfl (z_grp (z_g2 w os) rfl (z_grp (z_g3 w os) rfl (z_grp (z_g4 w os) rfl (z_grp (z_g5 w os) rfl (by rw [z_end]; exact piece_nil (z_fin w os)))))))))
noncomputable abbrev zX : Shared → Bool := fun s => xlAt vw seenTab s && recOk (RowW.records (PySem.Challenge.rw_rt0068_01.row.toRowW)) s
noncomputable abbrev zL : List Str := [Str.ofString "_filemode_table"]
theorem z_stat (w : World) (os : OsState) : (staticsOk (importedModules hP.main.body) (boot_heap w.params) (zH8 w.params) && namesBound hP (zH8 w.params) && gensDone (zS8 w os) && laidKept (boot_heap w.params) (zH8 w.params)) = true := by kernel_rfl
theorem z_seen (w : World) (os : OsState) : openSeen vw zL (importedModules hP.main.body) zX true (zS8 w os) = openGood vw zL := by
  unfold openSeen openGood
  refine looks_pair ?_ (looks_pair ?_ (looks_pair ?_ (looks_pair ?_ (looks_pair ?_ (looks_pair ?_ (looks_pair ?_ (looks_pair ?_ ?_)))))))
  all_goals as_aux_lemma => kernel_rfl
theorem hl_of {α : Type} {Yf : Shared → α} {Ya : World → α} (hy : ∀ (w : World) (os : OsState), Yf (zS8 w os) = Ya w) : LeftO hP vw zL zX Yf Ya 3578 :=
  LeftO.of_pieces (H₀ := boot_heap) (H₁ := zH8) z_open z_size z_run (by decide) fun w => funext fun os => looks_pair (z_stat w os) (looks_pair (z_seen w os) (hy w os))
theorem said : PySem.Challenge.rw_rt0068_01.wellSaid = true := by
  unfold OpenLaw.wellSaid OpenRow.wellSaid OpenRow.partSaid looksOpen
  repeat' (with_reducible refine look_both ?_ ?_)
  all_goals decide +kernel
end
section
open _root_.PySem _root_.PySem.W _root_.PyProof.Rows
set_option maxRecDepth 100000
set_option maxHeartbeats 8000000
theorem hO {d : DefRec} {kwd : List (Str × Expr)} (H : Hook) (hdef : defOf vw PySem.Challenge.rw_rt0068_01.row.toRowW.name = some (d, kwd)) (hp : PySem.Challenge.rw_rt0068_01.row.toRowW.prog.theDef PySem.Challenge.rw_rt0068_01.row.toRowW.name = some (d.params, d.body, d.scope)) (hk : kwWritten? d.params.kwonlyargs d.params.kw_defaults = some kwd)
    (hy : ∀ (w : World) (os : OsState), H.obs (zS8 w os) = H.val w) (k1 : PySem.Challenge.rw_rt0068_01.row.wellSaid = true) (hw : PySem.Challenge.rw_rt0068_01.row.toRowW.promised)
    (hc : WalkG vw zL (XL vw seenTab) H.says PySem.Challenge.rw_rt0068_01.row.toRowW d kwd) : PySem.Challenge.rw_rt0068_01.row.Holds :=
  PySem.W.holds_open (q := vw) (loose := zL) (Xt := zX) (XP := XL vw seenTab) (Yf := H.obs) (Ya := H.val) (YP := H.says) (N := 3578) (hl_of hy) H.of H.keeps (fun s e => xl_of s (Bool.and_eq_true_iff.mp e).1) XL.keeps hdef hp hk (fun s e => recFacts_of (Bool.and_eq_true_iff.mp e).2) (by rfl) k1 (by decide +kernel) ⟨rfl, rfl, rfl, rfl, rfl, by decide +kernel⟩ hw hc
local macro_rules | `(tactic| o_head $H) => `(tactic| (refine hO $H (by rfl) (by rfl) (by rfl) ?hl (by assumption) ?hw ?hc; (case hl => (intro w os; kernel_rfl))))
local macro_rules | `(tactic| o_law) => `(tactic| refine holds_law said fun _ => ?_)
open_top hd for PySem.Challenge.rw_rt0068_01
end
section
open _root_.PySem _root_.PySem.W _root_.PyProof.Rows _root_.PySem.Calls
set_option maxRecDepth 100000
noncomputable abbrev LS : List Str := looseW vw [Str.ofString "_filemode_table"]
abbrev PW : Program := PySem.Challenge.pw_rt0068_01
/-- h' holds all that h holds -/
noncomputable def Ext (h h' : Heap) : Prop := ∀ b o, h.get? b = some o → h'.get? b = some o
theorem Ext.refl {h : Heap} : Ext h h := fun _ _ e => e
theorem Ext.trans {h h' h'' : Heap} (a : Ext h h') (b : Ext h' h'') : Ext h h'' := fun x o e => b x o (a x o e)
/-- what a call of a def does, from any frame: it changes nothing that stood, and Out tells of what it hands back -/
noncomputable def Con (w : World) (n : Nat) (f : Addr) (vs : List Value) (Pre : Heap → Prop) (Out : Heap → Value → Heap → Prop) : Prop :=
  ∀ (mean : ExcName → Option Value) (mg mb : Str → Option Value) (dp un : Nat) (gd : Option (List Code)) (cn : Str) (cs : Scope) (a : Addr) (ccd : Value) (cl : List (Str × Addr)) (outer : List Env) (A₀ : Around) (base h₀ : Heap) (L : Addr) (m : Str → Option Value) (s : Shared) (Q E : Value → Shared → Prop),
    Below A₀ base outer h₀ → Fr h₀ L s.heap m → (hd.heap_1 w.params).In h₀ → Top vw LS mean mg mb h₀ → cs.kind = .function → dp + n < recursionLimit → un + 8 * n < cLine → Pre s.heap →
    (∀ (r : Value) (h' : Heap) (tk' : Nat), Ext s.heap h' → Out s.heap r h' → Q r { s with heap := h', toks := tk' }) →
      wpAny (model PW w) (ktrTop dp un gd cn cs L a ccd cl outer) (call (.ref f) vs) Q E s

section
variable {w : World} {n : Nat} {f : Addr} {vs : List Value} {Pre : Heap → Prop} {Out : Heap → Value → Heap → Prop}
  {mean : ExcName → Option Value} {mg mb : Str → Option Value} {dp un : Nat} {gd : Option (List Code)} {cn : Str} {cs : Scope} {a : Addr} {ccd : Value} {cl : List (Str × Addr)} {outer : List Env} {A₀ : Around} {base h₀ : Heap} {L : Addr} {m : Str → Option Value} {s : Shared} {Q E : Value → Shared → Prop} {news : List (Addr × Obj)}
theorem con_use (C : Con w n f vs Pre Out)
  (B : Below A₀ base outer h₀) (F : Fr h₀ L s.heap m) (X : (hd.heap_1 w.params).In h₀) (N : News h₀ L s.heap news) (T : Top vw LS mean mg mb h₀) (hk : cs.kind = .function) (hdp : dp + n < recursionLimit) (hun : un + 8 * n < cLine) (hp : Pre s.heap)
  (h : ∀ (r : Value) (h' : Heap) (tk' : Nat), Ext s.heap h' → Fr h₀ L h' m → News h₀ L h' news → Out s.heap r h' → Q r { s with heap := h', toks := tk' }) :
      wpAny (model PW w) (ktrTop dp un gd cn cs L a ccd cl outer) (call (.ref f) vs) Q E s :=
  C mean mg mb dp un gd cn cs a ccd cl outer A₀ base h₀ L m s Q E B F X T hk hdp hun hp fun r h' tk' k o => h r h' tk' k (F.keeps k) (N.grown k) o
end
theorem news_sub {h₀ h : Heap} {L : Addr} {news news' : List (Addr × Obj)} (N : News h₀ L h news') (hs : ∀ p ∈ news, p ∈ news') : News h₀ L h news := fun p hp => N p (hs p hp)
theorem news_add {h₀ h h' : Heap} {L D : Addr} {o : Obj} {m : Str → Option Value} {news : List (Addr × Obj)} (F : Fr h₀ L h m) (N : News h₀ L h news) (hk : Ext h h') (hD : h.get? D = none) (ho : h'.get? D = some o) : News h₀ L h' ((D, o) :: news) := by
  intro p hp
  rcases List.mem_cons.mp hp with rfl | hp
  · refine ⟨ho, fun e => ?_, ?_⟩
    · obtain ⟨oL, _, _, hL, _⟩ := F.ns
      have e' : D = L := e
      rw [e', hL] at hD; cases hD
    · cases q : h₀.get? D with
      | none => rfl
      | some o' => have := F.keep _ _ q; rw [hD] at this; cases this
  · exact ⟨hk _ _ (N p hp).1, (N p hp).2⟩

section
variable {prog : Program} {w : World} {A A₀ : Around} {s : Shared} {K : Frag} {L : Addr} {h₀ base : Heap} {m mg mb : Str → Option Value} {p : Program} {loose : List Str} {mean : ExcName → Option Value}
/-- entering a def over the whole heap as it stands -/
theorem enter_def {env : Env} {outer : List Env} {R : Result → Shared → Prop} {name qual : Str} {params : Arguments} {body : List Stmt} {scope : Scope} {dV kV doc pm cdv ct oc : Value} {an od : Option Addr} {osl : Array (Option Value)} {f : Addr} {args : Args} {binds : List (Str × Value)}
    (B : Below A₀ base outer h₀) (F : Fr h₀ L s.heap m) (X₀ : K.In h₀) (T : Top p loose mean mg mb h₀) (hA : A.frames = some (env :: outer)) (hf : env.frame = some L) (hke : env.scope.kind = .function)
    (ho : K.lookup f = some ⟨oc, od, .func (fnOf name qual params body scope dV kV doc pm an cdv ct), osl⟩) (hcd : codeIn K cdv qual = true) (hroom : A.depth < recursionLimit)
    (hbind : BindsTo s (fnOf name qual params body scope dV kV doc pm an cdv ct) args binds) (hloc : ∀ y ∈ binds, scope.names.lookup y.1 = some .local)
    (h : ∀ L' h₁, Fr s.heap L' h₁ (fun y => binds.reverse.lookup y) → News s.heap L' h₁ [] → Below A base (env :: outer) s.heap → K.In s.heap → Top p loose mean mg mb s.heap →
      wpAny (model prog w) (A.deeper (envOf qual scope L' f cdv)) (execs body (envOf qual scope L' f cdv))
        (fun fl s' => R (.ok (.ret (match fl with | .ret v => v | _ => .none))) s')
        (fun e s' => wpAny (model prog w) (A.deeper (envOf qual scope L' f cdv)) (leaving (envOf qual scope L' f cdv) e) (fun _ s'' => R (.error e) s'') (fun e' s'' => R (.error e') s'') s')
        { s with heap := h₁, toks := s.toks + binds.length })
    (hco : scope.isCoroutine = false) (hgen : scope.isGenerator = false) (hk : scope.kind = .function)
    (hcell : ∀ x ∈ scope.names, x.2 ≠ .cell) : codeAny (model prog w) A (.call (.ref f) args) R s := by
  have X' := X₀.keeps F.keep
  have B₁ := pushX B F hf hke
  refine codeAny_call_def (fd := fnOf name qual params body scope dV kV doc pm an cdv ct) (body := body) (binds := binds) hroom (X' _ _ ho) rfl (T.nolimit.keeps F.keep) (codeRec_of X' hcd) rfl hbind hcell hloc (fun h₁ hns hk₁ => ?_) hco hgen hk
  exact h s.heap.objs.size h₁ ⟨hns, hk₁, Nat.le_refl _⟩ News.nil ⟨hA, B₁.stays, B₁.frames⟩ X' (T.keeps F.keep)
end
end
section
open _root_.PySem _root_.PySem.W _root_.PyProof.Rows _root_.PySem.Calls
open _root_.PySem.Sem (wp)
set_option maxRecDepth 100000
set_option maxHeartbeats 1000000
theorem noDec_of {id : String} {args : Args} (h : (!(decIds.contains id)) = true) : noDec (.builtin id args) = true := h
section
variable {α β : Type} {M : Model} {A : Around} {s : Shared}
noncomputable def codeG (M : Model) (A : Around) (c : Code) (R : Flow → Shared → Prop) (s : Shared) : Prop :=
  ∀ Γ p, Γ.code = c → Γ.Below A → Clean Γ → wpCode M Γ (fun r s' => ∃ f, r = .ok f ∧ R f s') p s
abbrev nev : Value → Shared → Prop := fun _ _ => False
theorem G_of {t : Sem α} {Q : α → Shared → Prop} (h : wpAny M A t Q nev s) : wpG M A t Q s := fun Γ p hΓ _ _ => h Γ p hΓ
theorem G_mono {t : Sem α} {Q Q' : α → Shared → Prop} (h : wpG M A t Q s) (hQ : ∀ a s, Q a s → Q' a s) : wpG M A t Q' s :=
  fun Γ p hΓ h1 h2 => Sem.wp_mono M Γ t (fun a _ s => hQ a s) (fun _ _ _ x => x) p s (h Γ p hΓ h1 h2)
theorem G_pure {a : α} {Q : α → Shared → Prop} (h : Q a s) : wpG M A (pure a) Q s := fun _ _ _ _ _ => h
theorem G_bind {m : Sem α} {f : α → Sem β} {Q : β → Shared → Prop} (h : wpG M A m (fun a s' => wpG M A (f a) Q s') s) : wpG M A (m >>= f) Q s := fun Γ p hΓ h1 h2 => by
  rw [Sem.wp_bind']
  exact Sem.wp_mono M Γ m (fun a p' s' h' => h' Γ p' hΓ h1 h2) (fun _ _ _ x => x) p s (h Γ p hΓ h1 h2)
theorem G_ofB {m : Sem α} {f : α → Sem β} {Q : β → Shared → Prop} (h : wpAny M A m (fun a s' => wpG M A (f a) Q s') nev s) : wpG M A (m >>= f) Q s := G_bind (G_of h)
theorem G_holding {vs : List Value} {m : Sem α} {Q : α → Shared → Prop} (h : wpG M A m Q s) : wpG M A (holding vs m) Q s := fun Γ p hΓ h1 h2 => by
  rw [Sem.wp_holding]; exact h Γ p hΓ h1 h2
theorem G_onRaise {m : Sem α} {k : Value → Sem Unit} {Q : α → Shared → Prop} (h : wpG M A m Q s) : wpG M A (m.onRaise k) Q s := fun Γ p hΓ h1 h2 => by
  rw [Sem.wp_onRaise]
  exact Sem.wp_mono M Γ m (fun _ _ _ h' => h') (fun e p' s' h' => h'.elim) p s (h Γ p hΓ h1 h2)
theorem clean_enter {Γ : Ctx} {c : Code} {h : Option Value} {p : Pos} (h1 : noDec Γ.code = true) (h2 : Clean Γ) : Clean (Γ.enter c h p) := by
  intro x hx
  rcases List.mem_cons.mp hx with rfl | hx
  · exact h1
  · exact h2 x hx
theorem G_run {c : Code} {Q : Flow → Shared → Prop} (hc : codeG M A c Q s) : wpG M A (run c) Q s := fun Γ p hΓ h1 h2 => by
  rw [Sem.wp_run]
  refine wpCode_mono ?_ (hc (Γ.enter c none p) p rfl (hΓ.enter c none p (by intro x; cases x)) (clean_enter h1 h2))
  rintro r s' ⟨f, rfl, q⟩
  exact q
theorem G_runOwn {c : Code} {env : Env} {Q : Flow → Shared → Prop} (hc : codeG M A c Q s) : wpG M A (runOwn c env) Q s := by
  unfold runOwn
  exact G_onRaise (G_run hc)
theorem G_runValue {c : Code} {Q : Value → Shared → Prop} (hc : codeG M A c (fun f s' => ∃ v, f = .ret v ∧ Q v s') s) : wpG M A (runValue c) Q s := fun Γ p hΓ h1 h2 => by
  rw [Sem.wp_runValue]
  refine wpCode_mono ?_ (hc (Γ.enter c none p) p rfl (hΓ.enter c none p (by intro x; cases x)) (clean_enter h1 h2))
  rintro r s' ⟨f, rfl, v, rfl, q⟩
  exact q
theorem G_call {f : Value} {pos : List Value} {Q : Value → Shared → Prop} (hc : codeG M A (.call f ⟨pos, []⟩) (fun f s' => ∃ v, f = .ret v ∧ Q v s') s) : wpG M A (call f pos) Q s := G_runValue hc
theorem codeG_mono {c : Code} {R R' : Flow → Shared → Prop} (h : codeG M A c R s) (hR : ∀ f s, R f s → R' f s) : codeG M A c R' s := fun Γ p hc hΓ hC =>
  wpCode_mono (fun _ _ ⟨f, e, q⟩ => ⟨f, e, hR _ _ q⟩) (h Γ p hc hΓ hC)
theorem codeG_tree {c : Code} {R : Flow → Shared → Prop} (hn : noDec c = true)
    (h : wpG M (A.under c) (M.den c) (fun fin s' => match fin with | .done f => R f s' | .again c' => c'.quiet = true ∧ codeG M A c' R s') s) : codeG M A c R s := fun Γ p hc hΓ hC => by
  rw [wpCode_iff_wp, hc]
  refine Sem.wp_mono M Γ _ (fun fin p' s' h' => ?_) (fun _ _ _ h' => h'.elim) p s (h Γ p (hc ▸ hΓ.in) (hc ▸ hn) hC)
  cases fin with
  | done f => exact ⟨f, rfl, h'⟩
  | again c' => exact ⟨h'.1, h'.2 (Γ.goto c') p' rfl (hΓ.goto c') hC⟩
theorem codeG_of {c : Code} {R : Flow → Shared → Prop} (h : codeAny M A c (fun r s' => ∃ f, r = .ok f ∧ R f s') s) : codeG M A c R s := fun Γ p hc hΓ _ => h Γ p hc hΓ
end
section
variable {prog : Program} {w : World} {A : Around} {s : Shared}
theorem codeG_func {R : Flow → Shared → Prop} {body : List Stmt} {env : Env}
    (h : wpG (model prog w) (A.deeper env) (execs body env) (fun f s' => R (.ret (match f with | .ret v => v | _ => .none)) s') s) : codeG (model prog w) A (.func body env) R s := by
  refine codeG_tree rfl ?_
  show wpG _ (A.deeper env) (do point; match ← (execs body env).onRaise (leaving env) with | .ret v => ret v | _ => ret .none) _ s
  refine G_ofB (wpAny_point (G_bind (G_onRaise (G_mono h fun f s' h' => ?_))))
  cases f <;> exact G_pure h'
theorem codeG_call_def {R : Flow → Shared → Prop} {a : Addr} {o : Obj} {fd : FuncData} {body : List Stmt} {args : Args} {binds : List (Str × Value)}
    (hroom : A.depth < recursionLimit) (ho : s.heap.get? a = some o) (hd' : o.data = .func fd) (hlim : s.heap.NoLimit) (hcd : s.heap.CodeRec fd.code fd.qualname)
    (hbody : fd.body = .stmts body) (hbind : BindsTo s fd args binds)
    (hcell : ∀ x ∈ fd.scope.names, x.2 ≠ .cell) (hloc : ∀ x ∈ binds, fd.scope.names.lookup x.1 = some .local)
    (h : ∀ h₀, h₀.Ns s.heap.objs.size (fun x => binds.reverse.lookup x) → (∀ b o, s.heap.get? b = some o → h₀.get? b = some o) →
      wpG (model prog w) (A.deeper (callEnv fd s.heap.objs.size a)) (execs body (callEnv fd s.heap.objs.size a)) (fun f s' => R (.ret (match f with | .ret v => v | _ => .none)) s')
        { s with heap := h₀, toks := s.toks + binds.length })
    (hco : fd.scope.isCoroutine = false) (hgen : fd.scope.isGenerator = false) (hk : fd.scope.kind = .function) :
    codeG (model prog w) A (.call (.ref a) args) R s := by
  refine codeG_tree rfl (G_of ?_)
  show wpAny _ A.in1 (callAny (.ref a) args) _ _ s
  simp only [callAny]
  refine wpAny_bind (wpAny_load ho ?_)
  obtain ⟨c, oc, vs, tq, hc, hoc, hdc, hq⟩ := hcd
  simp only [hd', callFunction, hco, hgen, hbody, hc]
  refine wpAny_bind (m := field (.ref c) 1) (wpAny_field hoc hdc hq (wpAny_bind (wpAny_pure ?_)))
  refine wpAny_bind (hbind _ _ _ _ (wpAny_bind (wpAny_newFunctionEnv hcell hloc (fun h₀ hns₀ hsb₀ => wpAny_bind (wpAny_enterFrame (hlim.fresh _ hsb₀) hroom (wpAny_pure (And.intro rfl (codeG_func ?_))))) hk)))
  have := h h₀ hns₀ fun b o e => hsb₀.extBut b o (Nat.ne_of_lt (Heap.lt_size e)) (Heap.get?_push_of_some _ e)
  unfold callEnv at this
  rw [hc] at this
  exact this
end
end
section
open _root_.PySem _root_.PySem.W _root_.PyProof.Rows _root_.PySem.Calls
open _root_.PySem.Sem (wp)
set_option maxRecDepth 100000
set_option maxHeartbeats 4000000
set_option pp.maxSteps 700
set_option pp.deepTerms false
theorem ba_mro : mroOf (.type "bytearray") = pure [.type "bytearray", .type "object"] := by rw [mroOf_type]; kernel_rfl
theorem ba_lookup_new : typeLookup (.type "bytearray") "__new__" = pure (some (.builtin "bytearray.__new__")) := by rw [typeLookup_type, builtinLookup_eq_fast]; kernel_rfl
theorem ba_slot_init : Slot "bytearray" "__init__" "bytearray.__init__" :=
  .of (owner := "bytearray") (n := "__init__") (by rw [typeLookup_type, builtinLookup_eq_fast]; kernel_rfl) (by decide +kernel) (by decide +kernel) (by decide +kernel)
    (by first | exact .inl (by decide +kernel) | exact .inr (by decide +kernel)) (by rw [isSubtype_type]; kernel_rfl)
theorem ba_called : TypeCalled "bytearray" "bytearray.__new__" "bytearray.__init__" :=
  ⟨by decide +kernel, by decide +kernel, ⟨_, _, ba_mro⟩, madeBy_type ba_mro ba_lookup_new (by decide +kernel), by decide +kernel, by rw [isSubtype_type]; kernel_rfl, ba_slot_init⟩
theorem ba_typeCall (a : Value) : checkTypeCall "bytearray" ⟨[a], []⟩ = pure () := by kernel_rfl
theorem ba_newCall (a : Value) : checkBuiltinCall "bytearray.__new__" ⟨[.type "bytearray", a], []⟩ = pure () := by kernel_rfl
theorem ba_entry_new : entryFor table "bytearray.__new__" = some Builtin.«list.__new__» := entryFor_alias (id' := "list.__new__") (by kernel_rfl) (by decide +kernel) (by decide +kernel) (by kernel_rfl)
theorem ba_plain_new : plainId "bytearray.__new__" = true := by decide +kernel
theorem ba_entry_init : entryFor table "bytearray.__init__" = some Builtin.«bytearray.__init__» := by first | exact entryFor_of_fast (by kernel_rfl) | exact entryFor_of_tree (by kernel_rfl)
set_option maxRecDepth 1000000 in
theorem ba_owner : ("bytearray.__new__".splitOn ".__new__").headD "" = "bytearray" := by simp +decide [String.splitOn, String.splitOnAux]
theorem ba_self : isSubtype (.type "bytearray") (.type "bytearray") = pure true := by rw [isSubtype_type]; kernel_rfl
theorem ba_release : typeLookup (.type "bytearray") "__release_buffer__" = pure (some (.builtin "bytearray.__release_buffer__")) := by rw [typeLookup_type, builtinLookup_eq_fast]; kernel_rfl
theorem ba_args (a b : Value) : argsOk "bytearray.__init__" ⟨[a, b], []⟩ := by first | decide +kernel | (unfold argsOk; kernel_rfl)
section
variable {prog : Program} {w : World} {A : Around} {s : Shared} {E : Value → Shared → Prop}
theorem ba_code_new (a : Value) {Q₁ : Value → Shared → Prop}
    (h : Q₁ (.ref s.heap.objs.size) { s with heap := s.heap.push { cls := .type "bytearray", data := .bytearray #[] } }) :
    codeAny (model prog w) A (.call (.builtin "bytearray.__new__") ⟨[.type "bytearray", a], []⟩) (wants Q₁ E) s := by
  refine codeAny_of_tree ?_
  show wpAny _ A.in1 (do checkBuiltinCall "bytearray.__new__" ⟨[.type "bytearray", a], []⟩; again (.builtin "bytearray.__new__" ⟨[.type "bytearray", a], []⟩)) _ _ s
  refine wpAny_bind (wpAny_of_eq (ba_newCall a) (wpAny_pure ⟨plainId_quiet ba_plain_new _, codeAny_builtin_stack ba_entry_new rfl fun p st => ?_⟩))
  rw [Around.under_plainId ba_plain_new _]
  have hsub := ba_self
  have hown := ba_owner
  obtain ⟨hp, g, d, tk, os⟩ := s
  simp only [hown]
  wp_walk
  exact h
theorem ba_own {n : String} {D : Addr} {o : Obj} {Q : Bool → Shared → Prop} (hD : s.heap.get? D = some o) (hc : o.cls = .type "bytearray") 
    (hl : typeLookup (.type "bytearray") (n : Str) = pure (some (.builtin ("bytearray." ++ n)))) (he : ("bytearray." ++ n).endsWith ("." ++ n) = true) (hd : ("bytearray." ++ n).dropRight (n.length + 1) = "bytearray") (h : Q true s) :
    wpAny (model prog w) A (Builtin.Bytes.slotIsOwn (.ref D) n) Q E s := by
  have hT : s.TypeIs (.ref D) "bytearray" := ⟨_, hD, hc⟩
  unfold Builtin.Bytes.slotIsOwn
  refine wpAny_bind (wpAny_specialOf hT hl ?_)
  dsimp only
  rw [he, hd]
  refine wpAny_isInstance hT ba_self h
theorem ba_ownRelease {D : Addr} {o : Obj} {Q : Bool → Shared → Prop} (hD : s.heap.get? D = some o) (hc : o.cls = .type "bytearray") (h : Q false s) :
    wpAny (model prog w) A (Builtin.Bytes.ownRelease (.ref D)) Q E s := by
  unfold Builtin.Bytes.ownRelease
  exact wpAny_bind (ba_own (n := "__release_buffer__") hD hc ba_release (by decide +kernel) (by decide +kernel) (wpAny_pure h))
theorem ba_bind (v : Value) : Builtin.Bytes.bindOptional "bytearray.__init__" "bytearray" ["source", "encoding", "errors"] [v] [] = pure [some v, none, none] := by kernel_rfl
theorem G_stackAny {f : Code × Pos → Bool} {Q : Bool → Shared → Prop} {M : Model} (hf : ∀ c p, noDec c = true → f (c, p) = false) (h : Q false s) : wpG M A (do return (← stack).any f) Q s := fun Γ p hΓ h1 h2 => by
  show Q (((Γ.code, p) :: Γ.below).any f) s
  have e : (((Γ.code, p) :: Γ.below).any f) = false := by
    rw [List.any_eq_false]
    rintro ⟨c, q⟩ hx
    rcases List.mem_cons.mp hx with e | hx
    · cases e; rw [hf _ _ h1]; exact Bool.false_ne_true
    · rw [hf _ _ (h2 _ hx)]; exact Bool.false_ne_true
  rw [e]; exact h
theorem G_exported {D : Addr} {Q : Bool → Shared → Prop} {M : Model} (h : Q false s) : wpG M A (Builtin.Bytes.exported (.ref D)) Q s := by
  unfold Builtin.Bytes.exported
  refine G_stackAny (fun c p hc => ?_) h
  split
  · rename_i e
    cases e
    simp [noDec, decIds] at hc
  all_goals first | rfl | (rename_i e; cases e; simp [noDec, decIds] at hc; done) | skip
  · rename_i e
    cases e
    have h2 : Builtin.Bytes.decodersThatHold.contains ‹String› = false := by
      simp only [noDec, decIds, List.contains_eq_mem, Bool.not_eq_true', decide_eq_false_iff_not, List.mem_append, not_or] at hc
      rw [List.contains_eq_mem]
      exact decide_eq_false hc.2
    rw [h2, Bool.and_false]
theorem ba_write {D : Addr} {b : Array UInt8} {n : Nat} {f : Array UInt8 → Array UInt8} {Q : Unit → Shared → Prop} (hD : s.heap.get? D = some { cls := .type "bytearray", data := .bytearray b n }) (hz : (f b).size ≤ sizeLine)
    (h : ∀ h', h'.get? D = some { cls := .type "bytearray", data := .bytearray (f b) n } → Heap.SameBut D s.heap h' → Q () { s with heap := h' }) : wpAny (model prog w) A (Builtin.Bytes.write (.ref D) f) Q E s := by
  show wpAny _ _ (updateBytearray D f) _ _ _
  unfold updateBytearray
  refine wpAny_bind (wpAny_load hD ?_)
  show wpAny _ _ (update D (Obj.mapBytearray f) >>= fun _ => lookBehind D) _ _ _
  refine wpAny_bind (wpAny_update hD ?_)
  have hS₂ : (s.heap.update D (Obj.mapBytearray f)).get? D = some { cls := .type "bytearray", data := .bytearray (f b) n } := Heap.get?_update_self (Obj.mapBytearray f) hD rfl
  refine wpAny_lookBehind hS₂ ?_ (h _ hS₂ (Heap.SameBut.update ..))
  show (if (f b).size > sizeLine then some "bytearray:memory" else none) = none
  rw [if_neg (Nat.not_lt.mpr hz)]
theorem int_index : typeLookup (.type "int") "__index__" = pure (some (.builtin "int.__index__")) := by rw [typeLookup_type, builtinLookup_eq_fast]; kernel_rfl
theorem asStr_int (i : Int) (t : Tok) : asStr? (.int i t) = pure none := by first | rfl | (unfold asStr?; rfl)
theorem asIndex_int (i : Int) (t : Tok) : asIndex (.int i t) = pure i := by first | rfl | (unfold asIndex; rfl)
theorem ba_init {D : Addr} {n : Nat} {t : Tok} {Q : Fin → Shared → Prop} (hD : s.heap.get? D = some { cls := .type "bytearray", data := .bytearray #[] }) (hn : 0 < n ∧ n ≤ 1000)
    (h : ∀ h', h'.get? D = some { cls := .type "bytearray", data := .bytearray (Array.replicate n 0) } → Heap.SameBut D s.heap h' → Q (.done (.ret .none)) { s with heap := h' }) :
    wpG (model prog w) A (Builtin.«bytearray.__init__» ⟨[.ref D, .int n t], []⟩) Q s := by
  have hT : s.TypeIs (.ref D) "bytearray" := ⟨_, hD, rfl⟩
  unfold Builtin.«bytearray.__init__»
  dsimp only
  refine G_ofB (ba_ownRelease hD rfl ?_)
  refine G_ofB (wpAny_of_eq (ba_bind _) ?_)
  refine G_ofB (wpAny_of_eq (a := ()) rfl ?_)
  refine G_ofB (wpAny_of_eq (a := ()) rfl ?_)
  refine G_bind ?_
  refine G_bind (m := Builtin.Bytes.exported (.ref D)) (G_exported ?_)
  refine G_of ?_
  show wpAny _ _ (Builtin.Bytes.exportsOf (.ref D) >>= fun x => pure (decide (x > 0))) _ _ _
  refine wpAny_bind ?_
  unfold Builtin.Bytes.exportsOf
  refine wpAny_bind (wpAny_load hD ?_)
  refine wpAny_pure (wpAny_pure ?_)
  refine G_of ?_
  refine bm_if_false rfl ?_
  have hz : n ≤ sizeLine := by rw [sizeLine_eq]; omega
  refine wpAny_bind (ba_write (f := fun _ => #[]) hD (Nat.zero_le _) fun h₁ hD₁ k₁ => ?_)
  have hi := int_index
  have hT2 : ∀ s' : Shared, s'.TypeIs (.int (n : Int) t) "int" := fun s' => typeIs_int _ _ _
  refine wpAny_bind ?_
  with_reducible refine wpAny_of_eq (asStr_int _ _) ?_
  with_reducible refine wpAny_ite_false rfl ?_
  with_reducible refine wpAny_bind ?_
  with_reducible refine wpAny_ite_false rfl ?_
  with_reducible refine wpAny_ite_false rfl ?_
  with_reducible refine wpAny_pure ?_
  with_reducible refine wpAny_bind ?_
  with_reducible refine wpAny_specialOf (hT2 _) hi ?_
  with_reducible refine wpAny_ite_true rfl ?_
  with_reducible refine wpAny_bind ?_
  with_reducible refine wpAny_attempt ?_
  with_reducible refine wpAny_of_eq (asIndex_int _ _) ?_
  dsimp only
  with_reducible refine wpAny_ite_false (by unfold Builtin.Bytes.fitsIndex; first | (simp; done) | (simp; omega)) ?_
  with_reducible refine wpAny_ite_false (by first | (simp; done) | (simp; omega)) ?_
  with_reducible refine wpAny_ite_false (by first | (simp; done) | (simp; omega)) ?_
  with_reducible refine wpAny_ite_false (by unfold Builtin.Bytes.tooLong; first | (simp; done) | (simp; omega)) ?_
  with_reducible refine wpAny_bind ?_
  with_reducible refine wpAny_rule ?_
  with_reducible refine wpAny_ite_true (by first | (simp; done) | (simp; omega)) ?_
  with_reducible refine wpAny_bind ?_
  refine ba_write (f := fun _ => Array.replicate (n : Int).toNat 0) hD₁ (by simpa using hz) fun h₂ hD₂ k₂ => ?_
  exact wpAny_pure (h _ hD₂ ⟨k₂.1.trans k₁.1, fun b hb => (k₂.2 b hb).trans (k₁.2 b hb)⟩)
theorem G_ite_false {α : Type} {M : Model} {c : Prop} [Decidable c] {a b : Sem α} {Q : α → Shared → Prop} (hc : decide c = false) (h : wpG M A b Q s) : wpG M A (if c then a else b) Q s := by
  rw [if_neg (of_decide_eq_false hc)]; exact h
theorem codeG_builtin {id : String} {args : Args} {b : Builtin} {R : Flow → Shared → Prop} (hn : noDec (.builtin id args) = true) (hb : entryFor table id = some b)
    (h : wpG (model prog w) (A.under (.builtin id args)) (b args) (fun fin s' => match fin with | .done f => R f s' | .again c' => c'.quiet = true ∧ codeG (model prog w) A c' R s') s) :
    codeG (model prog w) A (.builtin id args) R s := by
  refine codeG_tree hn ?_
  show wpG _ _ (match entryFor table id with | some b => b args | none => unsupported ((withoutEnding? id "#data").getD id)) _ _
  rw [hb]; exact h
theorem ba_plain_init : plainId "bytearray.__init__" = true := by decide +kernel
theorem G_bytearray {n : Nat} {t : Tok} {Q : Value → Shared → Prop} (hn : 0 < n ∧ n ≤ 1000)
    (h : ∀ h', h'.get? s.heap.objs.size = some { cls := .type "bytearray", data := .bytearray (Array.replicate n 0) } → (∀ b o, s.heap.get? b = some o → h'.get? b = some o) → Q (.ref s.heap.objs.size) { s with heap := h' }) :
    wpG (model prog w) A (call (.type "bytearray") [.int n t]) Q s := by
  refine G_call (codeG_tree rfl ?_)
  show wpG _ _ (callAny (.type "bytearray") _) _ _
  refine G_pure ⟨Code.quiet_builtin _ (by decide +kernel), codeG_builtin (noDec_of (by decide +kernel)) F.entry_type_call ?_⟩
  rw [Around.under_plain (weight_type_call_type "bytearray" [.int n t] []) (units_type_call_type "bytearray" [.int n t] [])]
  have ft := ba_called
  have h2 := ft.canCreate
  unfold Builtin.«type.__call__»
  dsimp only
  with_reducible refine G_ite_false rfl ?_
  with_reducible refine G_ite_false (by simpa using h2) ?_
  refine G_ofB (wpAny_of_eq (ba_typeCall _) ?_)
  refine G_ofB (wpAny_of_eq ba_mro ?_)
  with_reducible refine G_ite_false rfl ?_
  refine G_ofB (wpAny_of_eq ba_called.made ?_)
  dsimp only
  refine G_ofB (wpAny_pure ?_)
  refine G_ofB (wpAny_holding (wpAny_call (codeAny_mono (ba_code_new (E := nev) (Q₁ := fun v s₁ => v = .ref s.heap.objs.size ∧ s₁ = { s with heap := s.heap.push { cls := .type "bytearray", data := .bytearray #[] } }) _ ⟨rfl, rfl⟩) fun r s₁ hr => ?_)))
  cases r with
  | error e => exact hr.elim
  | ok fl =>
    cases fl with
    | ret obj =>
      obtain ⟨rfl, rfl⟩ := hr
      have hD : (s.heap.push { cls := .type "bytearray", data := .bytearray #[] }).get? s.heap.objs.size = some { cls := .type "bytearray", data := .bytearray #[] } := Heap.get?_push_size _ rfl
      have hT : Shared.TypeIs { s with heap := s.heap.push { cls := .type "bytearray", data := .bytearray #[] } } (.ref s.heap.objs.size) "bytearray" := ⟨_, hD, rfl⟩
      show wpG _ _ _ _ _
      refine G_ofB (wpAny_isInstance hT ba_self ?_)
      with_reducible refine G_ite_false rfl ?_
      refine G_bind (G_holding ?_)
      unfold callSpecial?
      refine G_ofB (wpAny_specialOf hT ba_slot_init.lookup ?_)
      dsimp only
      refine G_holding (G_ofB (wpAny_of_eq (ba_slot_init.bind _) ?_))
      dsimp only
      refine G_bind (G_call (codeG_tree rfl ?_))
      show wpG _ _ (do checkBuiltinCall "bytearray.__init__" ⟨[.ref s.heap.objs.size, .int n t], []⟩; again (.builtin "bytearray.__init__" ⟨[.ref s.heap.objs.size, .int n t], []⟩)) _ _
      refine G_ofB (ba_slot_init.check _ _ _ _ _ _ _ _ hT (ba_args _ _) ?_)
      refine G_pure ⟨plainId_quiet ba_plain_init _, codeG_builtin (noDec_of (by decide +kernel)) ba_entry_init ?_⟩
      rw [Around.under_plainId ba_plain_init _]
      refine ba_init (s := { s with heap := s.heap.push { cls := .type "bytearray", data := .bytearray #[] } }) hD hn fun h' hD' k' => ?_
      refine ⟨_, rfl, ?_⟩
      refine G_pure ?_
      dsimp only
      with_reducible refine G_ite_false rfl ?_
      refine G_pure ?_
      refine ⟨_, rfl, h _ hD' fun b o e => ?_⟩
      exact k'.extBut b o (Nat.ne_of_lt (Heap.lt_size e)) (Heap.get?_push_of_some _ e)
    | _ => exact hr.elim
end
end
section
open _root_.PySem _root_.PySem.W _root_.PyProof.Rows _root_.PySem.Calls
open _root_.PySem.Sem (wp)
set_option maxRecDepth 100000
set_option maxHeartbeats 4000000
set_option pp.maxSteps 700
set_option pp.deepTerms false
theorem ba_slot_set : Slot "bytearray" "__setitem__" "bytearray.__setitem__" :=
  .of (owner := "bytearray") (n := "__setitem__") (by rw [typeLookup_type, builtinLookup_eq_fast]; kernel_rfl) (by decide +kernel) (by decide +kernel) (by decide +kernel)
    (by first | exact .inl (by decide +kernel) | exact .inr (by decide +kernel)) (by rw [isSubtype_type]; kernel_rfl)
theorem ba_entry_set : entryFor table "bytearray.__setitem__" = some Builtin.«bytearray.__setitem__» := by first | exact entryFor_of_fast (by kernel_rfl) | exact entryFor_of_tree (by kernel_rfl)
theorem ba_args_set (a b c : Value) : argsOk "bytearray.__setitem__" ⟨[a, b, c], []⟩ := by first | decide +kernel | (unfold argsOk; kernel_rfl)
theorem ba_no_bytes : typeLookup (.type "bytearray") "__bytes__" = pure none := by rw [typeLookup_type, builtinLookup_eq_fast]; kernel_rfl
theorem ba_no_index : typeLookup (.type "bytearray") "__index__" = pure none := by rw [typeLookup_type, builtinLookup_eq_fast]; kernel_rfl
theorem ba_buffer : typeLookup (.type "bytearray") "__buffer__" = pure (some (.builtin "bytearray.__buffer__")) := by rw [typeLookup_type, builtinLookup_eq_fast]; kernel_rfl
section
variable {prog : Program} {w : World} {A : Around} {s : Shared} {E : Value → Shared → Prop}
theorem ba_payload {D : Addr} {b : Array UInt8} {n : Nat} {Q : Array UInt8 → Shared → Prop} (hD : s.heap.get? D = some { cls := .type "bytearray", data := .bytearray b n }) (h : Q b s) : wpAny (model prog w) A (Builtin.Bytes.payload (.ref D)) Q E s := by
  unfold Builtin.Bytes.payload Builtin.Bytes.payload?
  refine wpAny_bind (wpAny_bind (wpAny_load hD ?_))
  exact wpAny_pure (wpAny_pure h)
theorem ba_subscript {k : Int} {t : Tok} {Q : Option Int → Shared → Prop} (hk : 0 ≤ k ∧ k < 1000) (h : Q (some k) s) : wpAny (model prog w) A (Builtin.Bytes.subscript? (.int k t)) Q E s := by
  unfold Builtin.Bytes.subscript?
  refine wpAny_bind (wpAny_specialOf (typeIs_int _ _ _) int_index ?_)
  with_reducible refine wpAny_ite_false rfl ?_
  refine wpAny_bind (wpAny_of_eq (asIndex_int _ _) ?_)
  with_reducible refine wpAny_ite_false (by unfold Builtin.Bytes.fitsIndex; simp; omega) ?_
  exact wpAny_pure h
theorem ba_byteValue {x : Int} {t : Tok} {Q : UInt8 → Shared → Prop} (hx : 0 ≤ x ∧ x < 256) (h : Q x.toNat.toUInt8 s) : wpAny (model prog w) A (Builtin.Bytes.byteValue (.int x t)) Q E s := by
  unfold Builtin.Bytes.byteValue
  refine wpAny_bind (wpAny_of_eq (asIndex_int _ _) ?_)
  with_reducible refine wpAny_ite_false (by simp; omega) ?_
  exact wpAny_pure h
theorem setItem_ba {D : Addr} {b : Array UInt8} {n : Nat} {k x : Int} {t u : Tok} {Q : Unit → Shared → Prop} (hD : s.heap.get? D = some { cls := .type "bytearray", data := .bytearray b n }) (hk : 0 ≤ k ∧ k < 1000 ∧ k < b.size) (hx : 0 ≤ x ∧ x < 256) (hz : b.size ≤ 1000)
    (hQ : ∀ h', h'.get? D = some { cls := .type "bytearray", data := .bytearray (b.setIfInBounds k.toNat x.toNat.toUInt8) n } → Heap.SameBut D s.heap h' → Q () { s with heap := h' }) :
    wpAny (model prog w) A (setItem (.ref D) (.int k t) (.int x u)) Q E s := by
  have hT : s.TypeIs (.ref D) "bytearray" := ⟨_, hD, rfl⟩
  unfold setItem
  try with_reducible refine wpAny_holding ?_
  first | refine wpAny_bind (wpAny_pure ?_) | skip
  refine wpAny_bind (wpAny_sequenceKey hT (by decide) ?_)
  refine wpAny_bind (wpAny_callSpecial?_slot (name := Str.ofString "__setitem__") hT ba_slot_set
    (wpAny_call_entry ba_slot_set hT ba_entry_set ?_ (ba_args_set _ _ _)))
  unfold Builtin.«bytearray.__setitem__»
  with_reducible refine wpAny_ite_false rfl ?_
  dsimp only
  refine wpAny_bind (ba_subscript ⟨hk.1, hk.2.1⟩ ?_)
  dsimp only
  refine wpAny_bind (ba_byteValue hx ?_)
  refine wpAny_bind (ba_payload hD ?_)
  have e : seqIndex? k b.size = some k.toNat := by
    simp [seqIndex?, show ¬ k < 0 by omega, hk.1, hk.2.2]
  rw [e]
  dsimp only
  refine wpAny_bind (ba_write (f := fun b => b.setIfInBounds k.toNat x.toNat.toUInt8) hD (by rw [Array.size_setIfInBounds, sizeLine_eq]; omega) fun h' hD' k' => ?_)
  exact wpAny_pure ⟨_, rfl, wpAny_pure (hQ _ hD' k')⟩
theorem bytes_new_ba {D : Addr} {b : Array UInt8} {Q : Value → Shared → Prop} (hD : s.heap.get? D = some { cls := .type "bytearray", data := .bytearray b }) (hz : b.size ≤ 1000)
    (hQ : ∀ t k, Q (.bytes b t) { s with toks := k }) : codeAny (model prog w) A (.call (.builtin "bytes.__new__") ⟨[.type "bytes", .ref D], []⟩) (wants Q E) s := by
  refine codeAny_of_tree ?_
  show wpAny _ A.in1 (do checkBuiltinCall "bytes.__new__" ⟨[.type "bytes", .ref D], []⟩; again (.builtin "bytes.__new__" ⟨[.type "bytes", .ref D], []⟩)) _ _ s
  refine wpAny_bind (wpAny_of_eq (F.bm_newCall _) (wpAny_pure ⟨plainId_quiet F.bm_plain _, codeAny_builtin F.bm_entry ?_⟩))
  rw [Around.under_plainId F.bm_plain _]
  have hT : s.TypeIs (.ref D) "bytearray" := ⟨_, hD, rfl⟩
  unfold Builtin.«bytes.__new__»
  refine wpAny_bind (wpAny_of_eq (a := true) rfl ?_)
  refine bm_if_false rfl ?_
  refine wpAny_bind (wpAny_of_eq F.bm_sub ?_)
  refine bm_if_false rfl ?_
  refine wpAny_bind (wpAny_of_eq (F.bm_bind _) ?_)
  refine wpAny_bind (wpAny_of_eq (a := ()) rfl ?_)
  refine wpAny_bind (wpAny_of_eq (a := ()) rfl ?_)
  refine bm_if_false rfl ?_
  refine wpAny_bind (wpAny_specialOf hT ba_no_bytes ?_)
  refine wpAny_bind (wpAny_bind ?_)
  show wpAny _ _ (load D >>= _) _ _ _
  refine wpAny_bind (wpAny_load hD ?_)
  refine wpAny_pure (wpAny_pure ?_)
  refine bm_if_false rfl ?_
  refine wpAny_bind (wpAny_specialOf hT ba_no_index ?_)
  refine bm_if_true rfl ?_
  first
    | show wpAny _ _ (Builtin.Bytes.buffer? "bytes.__new__" (.ref D) true >>= _) _ _ _
    | (refine wpAny_bind ?_; show wpAny _ _ (Builtin.Bytes.buffer? "bytes.__new__" (.ref D) true >>= _) _ _ _)
  refine wpAny_bind ?_
  unfold Builtin.Bytes.buffer?
  refine wpAny_bind (wpAny_specialOf hT ba_buffer ?_)
  refine wpAny_bind (ba_own (n := "__buffer__") hD rfl ba_buffer (by decide +kernel) (by decide +kernel) ?_)
  with_reducible refine wpAny_ite_false rfl ?_
  refine wpAny_bind (wpAny_specialOf hT ba_buffer ?_)
  dsimp only
  refine wpAny_bind (ba_ownRelease hD rfl ?_)
  with_reducible refine wpAny_ite_false rfl ?_
  refine wpAny_bind (ba_payload hD ?_)
  refine wpAny_pure ?_
  dsimp only
  with_reducible refine wpAny_bind ?_
  with_reducible refine wpAny_rule ?_
  refine wpAny_bind (wpAny_mkBytes ?_ (by rw [sizeLine_eq]; omega))
  show wpAny _ _ (if (Value.type "bytes" == Value.type "bytes") = true then _ else _) _ _ _
  refine bm_if_true (by decide) ?_
  first
    | exact wpAny_pure (hQ _ _)
    | exact wpAny_bind (wpAny_pure (wpAny_pure (hQ _ _)))
theorem call_bytes_ba {D : Addr} {b : Array UInt8} {Q : Value → Shared → Prop} (hD : s.heap.get? D = some { cls := .type "bytearray", data := .bytearray b }) (hz : b.size ≤ 1000)
    (hQ : ∀ t k, Q (.bytes b t) { s with toks := k }) : wpAny (model prog w) A (call (.type "bytes") [.ref D]) Q E s := by
  refine callType_codes (Q₁ := fun obj s₁ => s₁.TypeIs obj "bytes" ∧ Q obj s₁) F.bm_called (F.bm_typeCall _) F.entry_object_init
    (bytes_new_ba hD hz fun t k => ⟨PySem.W.typeIs_bytes _ _ _, hQ t k⟩) fun obj s₁ h₁ => ?_
  exact ⟨h₁.1, F.args_object_init_2 obj _, object_init_meets F.bm_called.init.lookup F.bm_called.made (by decide) prog w A.in1 _ s₁ ⟨h₁.1, rfl, h₁.2⟩⟩
end
end
section
open _root_.PySem _root_.PySem.W _root_.PyProof.Rows _root_.PySem.Calls
set_option maxRecDepth 100000
set_option maxHeartbeats 400000
section
variable {prog : Program} {w : World} {A : Around} {E : Value → Shared → Prop} {s : Shared} {env : Env} {h₀ : Heap} {target : Expr} {body : List Stmt} {Q : Flow → Shared → Prop}

theorem unr_mono {L : Addr} {its : List (Addr × Obj)} {r r' : (Str → Option Value) → List (Addr × Obj) → Prop} {s₁ : Shared} (hr : ∀ m n, r m n → r' m n) {f : Flow} {s₂ : Shared}
    (h : UnrPostW h₀ L s₁ its r Q f s₂) : UnrPostW h₀ L s₁ its r' Q f s₂ := by
  have e : UnrEndW h₀ L s₁ its r s₂ → UnrEndW h₀ L s₁ its r' s₂ := by
    rintro ⟨h', tk, m', news', a, b, c, d, x⟩
    exact ⟨h', tk, m', news', a, b, c, d, hr _ _ x⟩
  cases f with
  | ret v => exact h
  | brk => exact h
  | cont => exact e h
  | next => exact e h
theorem allObj_mono {ws : List (Addr × String)} : ∀ {k k' : List (Addr × Obj) → Prop}, (∀ l, k l → k' l) → AllObj ws k → AllObj ws k' := by
  induction ws with
  | nil => intro k k' h x; exact h _ x
  | cons a r ih => intro k k' h x o ho; exact ih (fun l => h _) (x o ho)

/-- a loop's items by an invariant over the turn's number, the frame's map and the ledger -/
theorem items_ind {ws : List (Addr × String)} {keep : List (Addr × Obj)} {xs : List Itm} (J : Nat → (Str → Option Value) → List (Addr × Obj) → Prop)
    (step : ∀ i a m news, xs[i]? = some a → J i m news → SubL keep news → ∀ v h tk, a.Is v h → Fr h₀ env.locals h m → AllObj ws (fun its => News h₀ env.locals h (its ++ news) →
      wpAny (model prog w) A (assign target env v) (fun _ s₂ => wpAny (model prog w) A (execs body env) (UnrPostW h₀ env.locals { s with heap := h, toks := tk } its (fun m' n' => SubL keep n' ∧ J (i + 1) m' n') Q) E s₂) E { s with heap := h, toks := tk }))
    (done : ∀ m news h tk, J xs.length m news → Fr h₀ env.locals h m → News h₀ env.locals h news → Q .next { s with heap := h, toks := tk }) :
    ∀ k i m news, xs.length - i = k → i ≤ xs.length → J i m news → SubL keep news → ItemsRest prog w A E h₀ env target body Q s ws keep (xs.drop i) m news := by
  intro k
  induction k with
  | zero =>
    intro i m news hk hi hJ hs
    have : i = xs.length := by omega
    subst this
    rw [List.drop_length]
    exact fun h tk F N => done m news h tk hJ F N
  | succ k ih =>
    intro i m news hk hi hJ hs
    have hlt : i < xs.length := by omega
    rw [List.drop_eq_getElem_cons hlt]
    intro v h tk hv F
    refine allObj_mono (fun its hx N => ?_) (step i xs[i] m news (by simp [hlt]) hJ hs v h tk hv F)
    refine wpAny_mono (hx N) (fun _ s₂ h₂ => wpAny_mono h₂ (fun f s₃ p => unr_mono (fun m' n' q => ⟨q.1, ih (i + 1) m' n' (by omega) hlt q.2 q.1⟩) p) fun _ _ e => e) fun _ _ e => e

/-- a loop over a list of the ledger -/
theorem iter_ledger {ax : Addr} {lo : Obj} {vs : List Value} {n : Nat} {m₀ : Str → Option Value} {news₀ : List (Addr × Obj)} (J : Nat → (Str → Option Value) → List (Addr × Obj) → Prop)
    (hh : A.handled = none) (F : Fr h₀ env.locals s.heap m₀) (N : News h₀ env.locals s.heap news₀) (hm : (ax, lo) ∈ news₀) (hc : lo.cls = .type "list") (hd : lo.data = .seq vs.toArray n)
    (h0 : J 0 m₀ news₀)
    (step : ∀ I, (∀ p ∈ news₀, p.1 < I) → ∀ i v m news, vs[i]? = some v → J i m news → SubL [(ax, lo)] news → ∀ h tk (it : Obj), it.cls = .type "list_iterator" → Fr h₀ env.locals h m → News h₀ env.locals h ((I, it) :: news) →
      wpAny (model prog w) A (assign target env v) (fun _ s₂ => wpAny (model prog w) A (execs body env) (UnrPostW h₀ env.locals { s with heap := h, toks := tk } [(I, it)] (fun m' n' => SubL [(ax, lo)] n' ∧ J (i + 1) m' n') Q) E s₂) E { s with heap := h, toks := tk })
    (done : ∀ m news h tk, J vs.length m news → Fr h₀ env.locals h m → News h₀ env.locals h news → Q .next { s with heap := h, toks := tk }) :
    wpAny (model prog w) A (pyIter (.ref ax)) (fun it s₂ => TurnsAt prog w A h₀ env target body Q E it s₂) E s := by
  refine iter_listTurns hh F N hm hc hd fun I hI => ?_
  have := items_ind (prog := prog) (w := w) (A := A) (E := E) (s := s) (env := env) (h₀ := h₀) (target := target) (body := body) (Q := Q) (ws := [(I, "list_iterator")]) (keep := [(ax, lo)]) (xs := vs.map Itm.val) J ?_ ?_ _ 0 m₀ news₀ rfl (Nat.zero_le _) h0 ⟨hm, trivial⟩
  · simpa using this
  · intro i a m news ha hJ hs v h tk hv F
    rw [List.getElem?_map] at ha
    cases q : vs[i]? with
    | none => rw [q] at ha; cases ha
    | some v' =>
      rw [q] at ha
      cases ha
      have e : v = v' := hv
      subst e
      exact fun it hit N => step I hI i v m news q hJ hs h tk it hit F N
  · intro m news h tk hJ
    rw [List.length_map] at hJ
    exact done m news h tk hJ

end
noncomputable def over (names : List Str) (us m₀ : Str → Option Value) : Str → Option Value := fun z => names.foldr (fun x acc => if z = x then us x else acc) (m₀ z)
theorem over_out {us m₀ : Str → Option Value} {z : Str} : ∀ {names : List Str}, z ∉ names → over names us m₀ z = m₀ z
  | [], _ => rfl
  | x :: r, h => by
    have h1 : z ≠ x := fun e => h (by simp [e])
    have h2 : z ∉ r := fun e => h (List.mem_cons_of_mem _ e)
    show (if z = x then us x else over r us m₀ z) = m₀ z
    rw [if_neg h1, over_out h2]
theorem over_in {us m₀ : Str → Option Value} {z : Str} : ∀ {names : List Str}, z ∈ names → over names us m₀ z = us z
  | x :: r, h => by
    show (if z = x then us x else over r us m₀ z) = us z
    by_cases h1 : z = x
    · rw [if_pos h1, h1]
    · rw [if_neg h1]
      rcases List.mem_cons.mp h with e | e
      · exact absurd e h1
      · exact over_in e
theorem over_of {names : List Str} {m m₀ : Str → Option Value} (h : ∀ z, z ∉ names → m z = m₀ z) : ∃ us, m = over names us m₀ := by
  refine ⟨m, funext fun z => ?_⟩
  by_cases hz : z ∈ names
  · rw [over_in hz]
  · rw [over_out hz, h z hz]
/-- a turn's end: the names that may have turned, the word at the next turn -/
structure TurnOk (names : List Str) (m₀ : Str → Option Value) (K : List (Addr × Obj) → Prop) (m' : Str → Option Value) (n' : List (Addr × Obj)) : Prop where
  nm : ∃ us, m' = over names us m₀
  wd : K n'
theorem TurnOk.intro {names : List Str} {m₀ : Str → Option Value} {K : List (Addr × Obj) → Prop} {m' : Str → Option Value} {n' : List (Addr × Obj)} (b : ∀ z, z ∉ names → m' z = m₀ z) (c : K n') : TurnOk names m₀ K m' n' := ⟨over_of b, c⟩
section
variable {prog : Program} {w : World} {A : Around} {E : Value → Shared → Prop} {s : Shared} {env : Env} {h₀ : Heap} {target : Expr} {body : List Stmt} {Q : Flow → Shared → Prop}
theorem loop_ledger (names : List Str) {ax : Addr} {lo : Obj} {vs : List Value} {n : Nat} {m₀ : Str → Option Value} {news₀ : List (Addr × Obj)} (Kn : Nat → List (Addr × Obj) → Prop)
    (hh : A.handled = none) (F : Fr h₀ env.locals s.heap m₀) (N : News h₀ env.locals s.heap news₀) (hm : (ax, lo) ∈ news₀) (hc : lo.cls = .type "list") (hd : lo.data = .seq vs.toArray n)
    (h0 : Kn 0 news₀)
    (step : ∀ I, (∀ p ∈ news₀, p.1 < I) → ∀ i v us news, vs[i]? = some v → Kn i news → SubL [(ax, lo)] news → ∀ h tk (it : Obj), it.cls = .type "list_iterator" → Fr h₀ env.locals h (over names us m₀) → News h₀ env.locals h ((I, it) :: news) →
      wpAny (model prog w) A (assign target env v) (fun _ s₂ => wpAny (model prog w) A (execs body env) (UnrPostW h₀ env.locals { s with heap := h, toks := tk } [(I, it)] (fun m' n' => SubL [(ax, lo)] n' ∧ TurnOk names m₀ (Kn (i + 1)) m' n') Q) E s₂) E { s with heap := h, toks := tk })
    (done : ∀ us news h tk, Kn vs.length news → Fr h₀ env.locals h (over names us m₀) → News h₀ env.locals h news → Q .next { s with heap := h, toks := tk }) :
    wpAny (model prog w) A (pyIter (.ref ax)) (fun it s₂ => TurnsAt prog w A h₀ env target body Q E it s₂) E s := by
  refine iter_ledger (fun i m news => (∃ us, m = over names us m₀) ∧ Kn i news) hh F N hm hc hd ⟨over_of fun _ _ => rfl, h0⟩ ?_ ?_
  · rintro I hI i v m news hv ⟨⟨us, rfl⟩, hK⟩ hs h tk it hit F N
    refine wpAny_mono (step I hI i v us news hv hK hs h tk it hit F N) (fun _ s₂ h₂ => wpAny_mono h₂ (fun f s₃ p => unr_mono (fun m' n' q => ⟨q.1, q.2.nm, q.2.wd⟩) p) fun _ _ e => e) fun _ _ e => e
  · rintro m news h tk ⟨⟨us, rfl⟩, hK⟩ F N
    exact done us news h tk hK F N
end
theorem nm_base {names : List Str} {us m₀ : Str → Option Value} : ∀ z, z ∉ names → over names us m₀ z = m₀ z := fun _ h => over_out h
theorem nm_put {names : List Str} {x : Str} {v : Option Value} {m m₀ : Str → Option Value} (hx : x ∈ names) (h : ∀ z, z ∉ names → m z = m₀ z) : ∀ z, z ∉ names → (fun y => if y = x then v else m y) z = m₀ z := by
  intro z hz
  show (if z = x then v else m z) = m₀ z
  have : z ≠ x := fun e => hz (by rw [e]; exact hx)
  rw [if_neg this, h z hz]
end
section
open _root_.PySem _root_.PySem.W _root_.PyProof.Rows _root_.PySem.Calls
set_option maxRecDepth 100000
set_option maxHeartbeats 400000
section
variable {prog : Program} {w : World} {A : Around} {E : Value → Shared → Prop} {s : Shared} {h₀ : Heap} {L D : Addr} {m : Str → Option Value} {news news' : List (Addr × Obj)} {n : Nat}
theorem led_list {its : Array Value} (N : News h₀ L s.heap news) (hm : (D, W.listOf its n) ∈ news) : s.heap.IsList D its := ⟨_, (N _ hm).1, rfl, n, rfl⟩
/-- a list of the ledger that is not empty is true -/
theorem truthy_ne {its : Array Value} {Q : Bool → Shared → Prop} (N : News h₀ L s.heap news) (hm : (D, W.listOf its n) ∈ news) (h0 : 0 < its.size) (hz : its.size ≤ 2 ^ 20) (h : ∀ tk, Q true { s with toks := tk }) : wpAny (model prog w) A (truthy (.ref D)) Q E s := by
  refine wpAny_truthy_list (led_list N hm) (by omega) ?_
  have : its.isEmpty = false := by
    unfold Array.isEmpty
    exact decide_eq_false (by omega)
  rw [this]; exact h _
theorem getLast_K {its : Array Value} {k : Int} {u : Tok} {v : Value} {Q : Value → Shared → Prop} {value slice : Expr} (N : News h₀ L s.heap news) (hm : (D, W.listOf its n) ∈ news) (hk : k = -1) (h0 : 0 < its.size) (hv : its[its.size - 1]? = some v) (h : Q v s)
    (hs : subscripted slice false (.ref D) (.int k u) = operate [.ref D, .int k u] (getItem (.ref D) (.int k u)) := by with_unfolding_all rfl) :
    wpAny (model prog w) A (subscriptTail value slice (.ref D) (.int k u)) Q E s := by
  subst hk
  have hl := led_list N hm
  refine tail_any hl.typeIs slot_list_getitem.lookup (wpAny_getItem_list_neg hl (by decide) (by omega) (by decide) ?_ h) hs
  have : ((-1 : Int) + (its.size : Int)).toNat = its.size - 1 := by omega
  rw [this]; exact hv
end
end
section
open _root_.PySem _root_.PySem.W _root_.PyProof.Rows _root_.PySem.Calls
open _root_.PySem.Sem (wp)
set_option maxRecDepth 100000
set_option maxHeartbeats 1000000
/-- as Con, for clean stacks -/
noncomputable def ConG (w : World) (n : Nat) (f : Addr) (vs : List Value) (Pre : Heap → Prop) (Out : Heap → Value → Heap → Prop) : Prop :=
  ∀ (mean : ExcName → Option Value) (mg mb : Str → Option Value) (dp un : Nat) (gd : Option (List Code)) (cn : Str) (cs : Scope) (a : Addr) (ccd : Value) (cl : List (Str × Addr)) (outer : List Env) (A₀ : Around) (base h₀ : Heap) (L : Addr) (m : Str → Option Value) (s : Shared) (Q : Value → Shared → Prop),
    Below A₀ base outer h₀ → Fr h₀ L s.heap m → (hd.heap_1 w.params).In h₀ → Top vw LS mean mg mb h₀ → cs.kind = .function → dp + n < recursionLimit → un + 8 * n < cLine → Pre s.heap →
    (∀ (r : Value) (h' : Heap) (tk' : Nat), Ext s.heap h' → Out s.heap r h' → Q r { s with heap := h', toks := tk' }) →
      wpG (model PW w) (ktrTop dp un gd cn cs L a ccd cl outer) (call (.ref f) vs) Q s
section
variable {w : World} {n : Nat} {f : Addr} {vs : List Value} {Pre : Heap → Prop} {Out : Heap → Value → Heap → Prop}
  {mean : ExcName → Option Value} {mg mb : Str → Option Value} {dp un : Nat} {gd : Option (List Code)} {cn : Str} {cs : Scope} {a : Addr} {ccd : Value} {cl : List (Str × Addr)} {outer : List Env} {A₀ : Around} {base h₀ : Heap} {L : Addr} {m : Str → Option Value} {s : Shared} {Q : Value → Shared → Prop} {news : List (Addr × Obj)}
theorem con_useG (C : ConG w n f vs Pre Out)
  (B : Below A₀ base outer h₀) (F : Fr h₀ L s.heap m) (X : (hd.heap_1 w.params).In h₀) (N : News h₀ L s.heap news) (T : Top vw LS mean mg mb h₀) (hk : cs.kind = .function) (hdp : dp + n < recursionLimit) (hun : un + 8 * n < cLine) (hp : Pre s.heap)
  (h : ∀ (r : Value) (h' : Heap) (tk' : Nat), Ext s.heap h' → Fr h₀ L h' m → News h₀ L h' news → Out s.heap r h' → Q r { s with heap := h', toks := tk' }) :
      wpG (model PW w) (ktrTop dp un gd cn cs L a ccd cl outer) (call (.ref f) vs) Q s :=
  C mean mg mb dp un gd cn cs a ccd cl outer A₀ base h₀ L m s Q B F X T hk hdp hun hp fun r h' tk' k o => h r h' tk' k (F.keeps k) (N.grown k) o
end
section
variable {prog : Program} {w : World} {A A₀ : Around} {s : Shared} {K : Frag} {L : Addr} {h₀ base : Heap} {m mg mb : Str → Option Value} {p : Program} {loose : List Str} {mean : ExcName → Option Value}
theorem enter_defG {env : Env} {outer : List Env} {R : Flow → Shared → Prop} {name qual : Str} {params : Arguments} {body : List Stmt} {scope : Scope} {dV kV doc pm cdv ct oc : Value} {an od : Option Addr} {osl : Array (Option Value)} {f : Addr} {args : Args} {binds : List (Str × Value)}
    (B : Below A₀ base outer h₀) (F : Fr h₀ L s.heap m) (X₀ : K.In h₀) (T : Top p loose mean mg mb h₀) (hA : A.frames = some (env :: outer)) (hf : env.frame = some L) (hke : env.scope.kind = .function)
    (ho : K.lookup f = some ⟨oc, od, .func (fnOf name qual params body scope dV kV doc pm an cdv ct), osl⟩) (hcd : codeIn K cdv qual = true) (hroom : A.depth < recursionLimit)
    (hbind : BindsTo s (fnOf name qual params body scope dV kV doc pm an cdv ct) args binds) (hloc : ∀ y ∈ binds, scope.names.lookup y.1 = some .local)
    (h : ∀ L' h₁, Fr s.heap L' h₁ (fun y => binds.reverse.lookup y) → News s.heap L' h₁ [] → Below A base (env :: outer) s.heap → K.In s.heap → Top p loose mean mg mb s.heap →
      wpG (model prog w) (A.deeper (envOf qual scope L' f cdv)) (execs body (envOf qual scope L' f cdv))
        (fun fl s' => R (.ret (match fl with | .ret v => v | _ => .none)) s')
        { s with heap := h₁, toks := s.toks + binds.length })
    (hco : scope.isCoroutine = false) (hgen : scope.isGenerator = false) (hk : scope.kind = .function)
    (hcell : ∀ x ∈ scope.names, x.2 ≠ .cell) : codeG (model prog w) A (.call (.ref f) args) R s := by
  have X' := X₀.keeps F.keep
  have B₁ := pushX B F hf hke
  refine codeG_call_def (fd := fnOf name qual params body scope dV kV doc pm an cdv ct) (body := body) (binds := binds) hroom (X' _ _ ho) rfl (T.nolimit.keeps F.keep) (codeRec_of X' hcd) rfl hbind hcell hloc (fun h₁ hns hk₁ => ?_) hco hgen hk
  exact h s.heap.objs.size h₁ ⟨hns, hk₁, Nat.le_refl _⟩ News.nil ⟨hA, B₁.stays, B₁.frames⟩ X' (T.keeps F.keep)
end
section
variable {M : Model} {A : Around} {s : Shared} {env : Env}
/-- the K walk stops here -/
noncomputable def Stop (P : Prop) : Prop := P
theorem G_execs_cons {st : Stmt} {rest : List Stmt} {Q : Flow → Shared → Prop} (h : wpG M A (exec st env) (fun f s' => match f with | .next => wpG M A (execs rest env) Q s' | f => Q f s') s) : wpG M A (execs (st :: rest) env) Q s := by
  rw [arm_execs_cons]
  refine G_bind (G_mono h fun f s' h' => ?_)
  cases f with
  | next => exact h'
  | brk => exact G_pure h'
  | cont => exact G_pure h'
  | ret v => exact G_pure h'
/-- a statement for the K walk -/
theorem G_step {st : Stmt} {rest : List Stmt} {Q : Flow → Shared → Prop} (h : wpAny M A (exec st env) (fun f s' => Stop (match f with | .next => wpG M A (execs rest env) Q s' | f => Q f s')) nev s) : wpG M A (execs (st :: rest) env) Q s := G_execs_cons (G_of h)
/-- all the rest for the K walk -/
theorem G_rest {sts : List Stmt} {Q : Flow → Shared → Prop} (h : wpAny M A (execs sts env) Q nev s) : wpG M A (execs sts env) Q s := G_of h
theorem G_callWith_of {P : Heap → Prop} {pos : Pos} {f : Value} {first : List Value} {args : List (Bool × Sem Value)} {keywords : List (Option Str × Sem Value)} {Q : Value → Shared → Prop} (hplain : (args.any (·.1) || keywords.any (·.1.isNone)) = false)
    (hk : ∀ h, P h → ∃ k, (k = Keeper.frame ∨ k = Keeper.machine ∨ k = Keeper.boundFrame) ∧ Looks M h (keeperOf f) k)
    (h : wpAny M A (evalArgs f true args keywords) (fun a s₁ => P s₁.heap ∧ wpG M A (call f (first ++ a.pos) a.kw) Q s₁) nev s) : wpG M A (callWith pos f first args keywords) Q s := by
  unfold callWith
  refine G_bind (G_holding (G_mono (G_of h) fun a s₁ h₁ => G_ofB (wpAny_standAt ?_)))
  obtain ⟨k, hk', L⟩ := hk _ h₁.1
  simp only [hplain]
  refine G_ofB (L.here ?_)
  have tail : ∀ {t : Sem Value}, wpG M A t Q s₁ → wpG M A (t >>= fun r => holding [r] point >>= fun _ => pure r) Q s₁ :=
    fun ht => G_bind (G_mono ht fun r s₂ hr => G_ofB (wpAny_holding (wpAny_point (G_pure hr))))
  have marked (mk : Value) : wpG M A (callMarked mk f (first ++ a.pos) a.kw) Q s₁ := by
    unfold callMarked
    intro Γ p hΓ h1 h2
    rw [Sem.wp_keep]; exact h₁.2 Γ p hΓ h1 h2
  rcases hk' with rfl | rfl | rfl <;> dsimp only <;> first | exact tail h₁.2 | (split <;> first | exact tail h₁.2 | exact tail (marked _))
theorem G_callWith_K {K : Frag} {h₀ : Heap} {pos : Pos} {f : Value} {first : List Value} {e : Expr} {rest : List Expr} {Q : Value → Shared → Prop} (_X : K.In h₀) (hk : keepIn K f = true)
    (h : wpAny M A (spliced (backTo pos (starEach (e :: rest) env))) (fun vs s₁ => K.In s₁.heap ∧ Stop (wpG M A (call f (first ++ vs)) Q s₁)) nev s)
    (he : starEach (e :: rest) env = (false, eval e env) :: starEach rest env := by rfl) (hplain : (backTo pos (starEach rest env)).any (·.1) = false := by rfl) :
    wpG M A (callWith pos f first (backTo pos (starEach (e :: rest) env)) []) Q s := by
  rw [he] at h ⊢
  exact G_callWith_of (by show ((false || (backTo pos (starEach rest env)).any (·.1)) || false) = false; rw [hplain]; rfl) (keeps_K hk) (evalArgs_plain h)
theorem G_Call {func : Expr} {args : List Expr} {pos : Pos} {Q : Value → Shared → Prop}
    (h : wpAny M A (eval func env) (fun f s₁ => Stop (wpG M A (callWith pos f [] (backTo pos (starEach args env)) []) Q s₁)) nev s)
    (he : eval (.Call func args [] pos) env = (do callWith pos (← eval func env) [] (backTo pos (starEach args env)) (backToKw pos (keywordEach [] env))) := by rfl) :
    wpG M A (eval (.Call func args [] pos) env) Q s := by
  rw [he]; exact G_ofB h
theorem G_Assign1 {t value : Expr} {pos : Pos} {Q : Flow → Shared → Prop}
    (h : wpG M A (eval value env) (fun v s₁ => wpAny M A (assign t env v) (fun _ s₂ => Q .next s₂) nev s₁) s)
    (hs : swapsWithSole [t] value pos.line env = pure false := by rfl) (hw : swappedStores [t] value env = pure none := by rfl) (ha : assignEach [t] env = [(false, assign t env)] := by rfl) :
    wpG M A (exec (.Assign [t] value pos) env) Q s := by
  rw [arm_exec_Assign]
  refine G_ofB (wpAny_standAt (G_ofB (wpAny_of_eq hs ?_)))
  with_reducible refine (fun (h : wpG M A _ _ _) => h) ?_
  show wpG M A (eval value env >>= _) Q s
  refine G_bind (G_mono h fun v s₁ h₁ => G_ofB (wpAny_of_eq hw ?_))
  rw [ha]
  show wpG M A (assign t env v >>= fun _ => pure .next) Q s₁
  exact G_ofB (wpAny_mono h₁ (fun _ _ q => G_pure q) fun _ _ x => x)
theorem G_bytearray' {prog : Program} {w : World} {h₀ : Heap} {L : Addr} {m : Str → Option Value} {news : List (Addr × Obj)} {z : Int} {n : Nat} {t : Tok} {Q : Value → Shared → Prop} (hz : z = (n : Int)) (hn : 0 < n ∧ n ≤ 1000) (F : Fr h₀ L s.heap m) (N : News h₀ L s.heap news)
    (h : ∀ D h', (∀ p ∈ news, p.1 < D) → Fr h₀ L h' m → News h₀ L h' ((D, { cls := .type "bytearray", data := .bytearray (Array.replicate n 0) }) :: news) → Q (.ref D) { s with heap := h' }) :
    wpG (model prog w) A (call (.type "bytearray") [.int z t]) Q s := by
  subst hz
  refine G_bytearray hn fun h' hD k' => h _ h' (fun p hp => Heap.lt_size (N p hp).1) (F.keeps k') (news_add F N k' ?_ hD)
  exact Heap.get?_none_of_le (Nat.le_refl _)
theorem G_callWith_T {h₀ : Heap} {L : Addr} {m : Str → Option Value} {pos : Pos} {T : String} {first : List Value} {e : Expr} {rest : List Expr} {Q : Value → Shared → Prop} (_F : Fr h₀ L s.heap m)
    (h : wpAny M A (spliced (backTo pos (starEach (e :: rest) env))) (fun vs s₁ => Stop (wpG M A (call (.type T) (first ++ vs)) Q s₁)) nev s)
    (he : starEach (e :: rest) env = (false, eval e env) :: starEach rest env := by rfl) (hplain : (backTo pos (starEach rest env)).any (·.1) = false := by rfl) :
    wpG M A (callWith pos (.type T) first (backTo pos (starEach (e :: rest) env)) []) Q s := by
  rw [he] at h ⊢
  exact G_callWith_of (P := fun _ => True) (by show ((false || (backTo pos (starEach rest env)).any (·.1)) || false) = false; rw [hplain]; rfl) (fun h _ => ⟨.machine, .inr (.inl rfl), Looks.of_pure rfl⟩) (evalArgs_plain (wpAny_mono h (fun _ _ x => ⟨trivial, x⟩) fun _ _ x => x))
end
end
section
open _root_.PySem _root_.PySem.W _root_.PyProof.Rows _root_.PySem.Calls
open _root_.PySem.Sem (wp)
set_option maxRecDepth 100000
set_option maxHeartbeats 1000000
section
variable {prog : Program} {w : World} {A A₀ : Around} {s : Shared} {K : Frag} {L : Addr} {h₀ base : Heap} {m mg mb : Str → Option Value} {p : Program} {loose : List Str} {mean : ExcName → Option Value}
/-- entering a def that has cells, over the whole heap as it stands -/
theorem enter_defC {env : Env} {outer : List Env} {R : Result → Shared → Prop} {name qual : Str} {params : Arguments} {body : List Stmt} {scope : Scope} {dV kV doc pm cdv ct oc : Value} {an od : Option Addr} {osl : Array (Option Value)} {f : Addr} {args : Args} {binds : List (Str × Value)}
    (B : Below A₀ base outer h₀) (F : Fr h₀ L s.heap m) (X₀ : K.In h₀) (T : Top p loose mean mg mb h₀) (hA : A.frames = some (env :: outer)) (hf : env.frame = some L) (hke : env.scope.kind = .function)
    (ho : K.lookup f = some ⟨oc, od, .func (fnOf name qual params body scope dV kV doc pm an cdv ct), osl⟩) (hcd : codeIn K cdv qual = true) (hroom : A.depth < recursionLimit)
    (hbind : BindsTo s (fnOf name qual params body scope dV kV doc pm an cdv ct) args binds)
    (hkind : (binds.all fun y => scope.names.lookup y.1 == some .local || scope.names.lookup y.1 == some .cell) = true)
    (hnd : ((cellsFrom 0 scope.names []).map (·.1)).Nodup)
    (h : ∀ L' h₁ tk cells, Fr s.heap L' h₁ (bindL (envOfC qual scope L' f cdv).kindOf binds fun _ => none) → News s.heap L' h₁ cells →
      CellsAre (bindC (envOfC qual scope L' f cdv).kindOf binds fun _ => none) (cellsFrom (L' + 1) scope.names []) cells → Below A base (env :: outer) s.heap → K.In s.heap → Top p loose mean mg mb s.heap →
      wpAny (model prog w) (A.deeper (envOfC qual scope L' f cdv)) (execs body (envOfC qual scope L' f cdv))
        (fun fl s' => R (.ok (.ret (match fl with | .ret v => v | _ => .none))) s')
        (fun e s' => wpAny (model prog w) (A.deeper (envOfC qual scope L' f cdv)) (leaving (envOfC qual scope L' f cdv) e) (fun _ s'' => R (.error e) s'') (fun e' s'' => R (.error e') s'') s')
        { s with heap := h₁, toks := tk })
    (hco : scope.isCoroutine = false) (hgen : scope.isGenerator = false) (hk : scope.kind = .function) : codeAny (model prog w) A (.call (.ref f) args) R s := by
  have X' := X₀.keeps F.keep
  have B₁ := pushX B F hf hke
  have hlim := T.nolimit.keeps F.keep
  refine codeAny_call_function (fd := fnOf name qual params body scope dV kV doc pm an cdv ct) (body := body) hroom (X' _ _ ho) rfl hco hgen rfl (codeRec_of X' hcd) (hbind _ _ _ _ ?_)
  refine wpAny_newFunctionEnv_cells hk (kindsX hkind _) fun env' he s' x => ?_
  subst he
  refine ⟨hlim.keeps x.toInCall.keep, codeAny_func ?_⟩
  obtain ⟨h₁, tk, rfl, _⟩ := x.done
  have hk₁ := x.toInCall.keep
  obtain ⟨cells, NC, Y⟩ := Cl.news (h₀ := s.heap) (Nat.le_refl _) fun n c hm => ⟨x.cell n c (lookup_of_mem_nodup (cellsFrom_names scope.names 0 (s.heap.objs.size + 1) [] [] rfl ▸ hnd) hm), x.above n c hm⟩
  exact h s.heap.objs.size h₁ tk cells ⟨x.toInCall.ns, hk₁, Nat.le_refl _⟩ NC Y ⟨hA, B₁.stays, B₁.frames⟩ X' (T.keeps F.keep)
end
end
section
open _root_.PySem _root_.PySem.W _root_.PyProof.Rows _root_.PySem.Calls
open _root_.PySem.Sem (wp)
set_option maxRecDepth 100000
set_option maxHeartbeats 1000000
section
variable {M : Model} {A : Around} {s : Shared} {env : Env}
theorem G_operate {vs : List Value} {m : Sem Value} {Q : Value → Shared → Prop} (h : wpG M A m Q s) : wpG M A (operate vs m) Q s := fun Γ p hΓ h1 h2 => by
  rw [Sem.wp_operate]; exact h Γ p hΓ h1 h2
theorem G_spliced_cons {x : Sem Value} {rest : List (Bool × Sem Value)} {Q : List Value → Shared → Prop}
    (h : wpG M A x (fun v s₁ => wpG M A (spliced rest) (fun vs s₂ => Q (v :: vs) s₂) s₁) s) : wpG M A (spliced ((false, x) :: rest)) Q s := by
  rw [spliced]
  refine G_bind (G_mono h fun v s₁ h₁ => ?_)
  simp only [Bool.false_eq_true, if_false]
  exact G_bind (G_pure (G_bind (G_holding (G_mono h₁ fun vs s₂ h₂ => G_pure h₂))))
theorem G_args_cons {e : Expr} {rest : List Expr} {pos : Pos} {Q : List Value → Shared → Prop}
    (h : wpG M A (eval e env) (fun v s₁ => wpG M A (spliced (backTo pos (starEach rest env))) (fun vs s₂ => Q (v :: vs) s₂) s₁) s)
    (he : starEach (e :: rest) env = (false, eval e env) :: starEach rest env := by rfl) : wpG M A (spliced (backTo pos (starEach (e :: rest) env))) Q s := by
  rw [he]; exact G_spliced_cons h
theorem G_args_nil {pos : Pos} {Q : List Value → Shared → Prop} (h : Q [] s) : wpG M A (spliced (backTo pos (starEach [] env))) Q s := G_pure h
theorem G_Tuple {elts : List Expr} {k : Nat} {pos : Pos} {Q : Value → Shared → Prop} (h : wpG M A (spliced (backTo pos (starEach elts env))) (fun vs s₁ => wpAny M A (newTuple vs) Q nev s₁) s)
    (he : eval (.Tuple elts k pos) env = (do standAt pos; newTuple (← spliced (backTo pos (starEach elts env)))) := by rfl) : wpG M A (eval (.Tuple elts k pos) env) Q s := by
  rw [he]
  exact G_ofB (wpAny_standAt (G_bind (G_mono h fun _ _ x => G_of x)))
theorem G_AssignSw {elts k tpos value pos} {names : List Str} {Q : Flow → Shared → Prop}
    (h : wpG M A (eval value env) (fun v s₁ => wpAny M A (unpackItems v names.length none) (fun items s₂ =>
      wpAny M A (assignInOrder (names.reverse.map fun n => bindName env n) items.reverse) (fun _ s₃ => Stop (Q .next s₃)) nev s₂) nev s₁) s)
    (hs : swapsWithSole [.Tuple elts k tpos] value pos.line env = pure false := by rfl)
    (hw : swappedStores [.Tuple elts k tpos] value env = pure (some names) := by rfl) :
    wpG M A (exec (.Assign [.Tuple elts k tpos] value pos) env) Q s := by
  rw [exec_Assign]
  refine G_ofB (wpAny_standAt ?_)
  rw [hs]
  refine G_ofB (wpAny_pure ?_)
  rw [if_neg (by decide)]
  refine G_bind (G_mono h fun v s₁ h₁ => ?_)
  rw [hw]
  refine G_ofB (wpAny_pure ?_)
  show wpG M A (do rule "assign.swapped-stores"; let items ← unpackItems v names.length none; assignInOrder (names.reverse.map fun n => bindName env n) items.reverse; pure .next) Q s₁
  exact G_of (wpAny_bind (wpAny_rule (wpAny_bind (wpAny_mono h₁ (fun items s₂ h₂ => wpAny_bind (wpAny_mono h₂ (fun _ _ x => wpAny_pure x) fun _ _ x => x)) fun _ _ x => x))))
theorem G_Return {e : Expr} {pos : Pos} {Q : Flow → Shared → Prop} (h : wpG M A (eval e env) (fun v => Q (.ret v)) s) : wpG M A (exec (.Return (some e) pos) env) Q s := by
  rw [arm_exec_Return]
  refine G_ofB (wpAny_standAt ?_)
  show wpG M A (eval e env >>= fun v => pure (.ret v)) Q s
  exact G_bind (G_mono h fun _ _ x => G_pure x)
theorem G_If {test : Expr} {body orelse : List Stmt} {pos : Pos} {Q : Flow → Shared → Prop}
    (h : wpG M A (isTrue test env (eval test env)) (fun b s₁ => if b then wpG M A (execs body env) Q s₁ else wpG M A (execs orelse env) Q s₁) s) : wpG M A (exec (.If test body orelse pos) env) Q s := by
  rw [arm_exec_If]
  refine G_ofB (wpAny_standAt (G_bind (G_mono h fun b s₁ h₁ => ?_)))
  cases b <;> exact h₁
theorem G_isTrue_cmp {l r : Expr} {op : CmpOp} {pos : Pos} {whole : Sem Value} {Q : Bool → Shared → Prop}
    (h : wpG M A (eval l env) (fun a s₁ => wpAny M A (eval r env) (fun b s₂ => wpAny M A (compareOp op a b) (fun c s₃ => wpAny M A (truthy c) (fun t s₄ => Stop (Q t s₄)) nev s₃) nev s₂) nev s₁) s)
    (hm : behindInMarks op r = false := by with_unfolding_all rfl) : wpG M A (isTrue (.Compare l [op] [r] pos) env whole) Q s := by
  rw [isTrue_Compare1, markedBehindIn_of_false hm]
  refine G_bind (G_mono h fun a s₁ h₁ => ?_)
  refine G_bind (G_holding (G_mono (G_of h₁) fun b s₂ h₂ => G_ofB (wpAny_standAt ?_)))
  refine G_bind (G_operate (G_mono (G_of h₂) fun c s₃ h₃ => G_holding (G_of h₃)))
theorem G_isTrue_Or {values : List Expr} {pos : Pos} {whole : Sem Value} {Q : Bool → Shared → Prop} (h : wpG M A (allTrue .Or values env) Q s) : wpG M A (isTrue (.BoolOp .Or values pos) env whole) Q s := h
theorem G_or_cons {x : Expr} {rest : List Expr} {Q : Bool → Shared → Prop} (h : wpG M A (isTrue x env (eval x env)) (fun b s₁ => if b then Q true s₁ else wpG M A (allTrue .Or rest env) Q s₁) s) : wpG M A (allTrue .Or (x :: rest) env) Q s := by
  rw [arm_allTrue_cons]
  refine G_bind (G_mono h fun b s₁ h₁ => ?_)
  cases b with
  | true => exact G_pure h₁
  | false => exact h₁
theorem G_or_nil {Q : Bool → Shared → Prop} (h : Q false s) : wpG M A (allTrue .Or [] env) Q s := G_pure h
theorem G_BinOp_right {l r : Expr} {op : Operator} {pos : Pos} {Q : Value → Shared → Prop}
    (h : wpAny M A (eval l env) (fun a s₁ => Stop (wpG M A (eval r env) (fun b s₂ => wpAny M A (binaryOp op a b) Q nev s₂) s₁)) nev s) : wpG M A (eval (.BinOp l op r pos) env) Q s := by
  rw [arm_eval_BinOp]
  refine G_ofB (wpAny_mono h (fun a s₁ h₁ => ?_) fun _ _ x => x)
  refine G_bind (G_holding (G_mono (show wpG M A (eval r env) _ s₁ from h₁) fun b s₂ h₂ => ?_))
  exact G_ofB (wpAny_standAt (G_operate (G_of h₂)))
theorem G_MethodCall {o : Expr} {name : Str} {apos pos : Pos} {args : List Expr} {pl : Sem Bool} {Q : Value → Shared → Prop}
    (h : wpG M A (eval o env) (fun ov s₁ => wpAny M A (getMethod ov name pl) (fun fx s₂ => wpAny M A (callWith pos fx.1 fx.2 (backTo pos (starEach args env)) []) Q nev s₂) nev s₁) s)
    (he : eval (.Call (.Attribute o name apos) args [] pos) env = (do
      let ov ← eval o env
      standAt apos.atName
      let (f, first) ← holding [ov] (getMethod ov name pl)
      callWith pos f first (backTo pos (starEach args env)) []) := by rfl) :
    wpG M A (eval (.Call (.Attribute o name apos) args [] pos) env) Q s := by
  rw [he]
  refine G_bind (G_mono h fun ov s₁ h₁ => G_ofB (wpAny_standAt (G_ofB (wpAny_holding (wpAny_mono h₁ (fun fx s₂ h₂ => ?_) fun _ _ x => x)))))
  exact G_of h₂
end
end
section
open _root_.PySem _root_.PySem.W _root_.PyProof.Rows _root_.PySem.Calls
open _root_.PySem.Sem (wp)
set_option maxRecDepth 100000
set_option maxHeartbeats 1000000
section
variable {M : Model} {A : Around} {s : Shared} {env : Env}
theorem G_Compare2 {l r1 r2 : Expr} {op1 op2 : CmpOp} {pos : Pos} {Q : Value → Shared → Prop}
    (h : wpG M A (eval l env) (fun a s₁ => wpAny M A (eval r1 env) (fun b s₂ => wpAny M A (compareOp op1 a b) (fun c s₃ => wpAny M A (truthy c) (fun t s₄ =>
      if t then wpAny M A (eval r2 env) (fun d s₅ => wpAny M A (compareOp op2 b d) Q nev s₅) nev s₄ else Q c s₄) nev s₃) nev s₂) nev s₁) s)
    (hm : behindInMarks op2 r2 = false := by with_unfolding_all rfl) : wpG M A (eval (.Compare l [op1, op2] [r1, r2] pos) env) Q s := by
  rw [arm_eval_Compare]
  refine G_bind (G_mono h fun a s₁ h₁ => ?_)
  show wpG M A (compareChain pos a [op1, op2] [eval r1 env, markedBehindIn op2 r2 (eval r2 env)]) Q s₁
  rw [markedBehindIn_of_false hm]
  refine G_of ?_
  unfold compareChain
  refine wpAny_bind (wpAny_holding (wpAny_mono h₁ (fun b s₂ h₂ => ?_) fun _ _ x => x))
  refine wpAny_bind (wpAny_standAt (wpAny_bind (wpAny_holding (wpAny_mono h₂ (fun c s₃ h₃ => ?_) fun _ _ x => x))))
  refine wpAny_bind (fun Γ p hΓ => ?_)
  rw [Sem.wp_release]
  refine (show wpAny M A (holding [c, b] (truthy c) >>= _) Q nev s₃ from wpAny_bind (wpAny_holding (wpAny_mono h₃ (fun t s₄ h₄ => ?_) fun _ _ x => x)))
  cases t with
  | false => exact wpAny_pure h₄
  | true =>
    unfold compareChain
    refine wpAny_bind (wpAny_holding (wpAny_mono h₄ (fun d s₅ h₅ => ?_) fun _ _ x => x))
    refine wpAny_bind (wpAny_standAt ?_)
    intro Γ p hΓ
    rw [Sem.wp_operate]
    exact h₅ Γ p hΓ
end
end
section
open _root_.PySem _root_.PySem.W _root_.PyProof.Rows _root_.PySem.Calls
set_option maxRecDepth 100000
set_option maxHeartbeats 400000
abbrev S (l : List Nat) : Str := ⟨l.toArray⟩
theorem S_len (l : List Nat) : (S l).length = l.length := by simp [Str.length]
theorem S_cps (l : List Nat) : (S l).cps.toList = l := by simp
theorem S_of (x : Str) : x = S x.cps.toList := by simp
theorem slash_is : Str.ofString "/" = S [47] := by decide +kernel
theorem S_inj {a b : List Nat} : S a = S b ↔ a = b := by
  constructor
  · intro h
    have : (S a).cps.toList = (S b).cps.toList := by rw [h]
    simpa using this
  · intro h; rw [h]
theorem S_append (a b : List Nat) : S a ++ S b = S (a ++ b) := by
  apply Str.ext'
  show a.toArray ++ b.toArray = (a ++ b).toArray
  simp
theorem slice_to (l : List Nat) (k : Int) (h : 0 ≤ k ∧ k ≤ l.length) : Txt.slice (S l) none (some k) = S (l.take k.toNat) := by
  have := StrLaws.sliceText_to (x := S l) (j := k) (by simpa using h)
  show StrLaws.sliceText (S l) none (some k) = _
  rw [this]; simp
theorem slice_from (l : List Nat) (k : Int) (h : 0 ≤ k ∧ k ≤ l.length) : Txt.slice (S l) (some k) none = S (l.drop k.toNat) := by
  have := StrLaws.sliceText_from (x := S l) (i := k) (by simpa using h)
  show StrLaws.sliceText (S l) (some k) none = _
  rw [this]
  simp only [S_cps]
  congr 2
  apply List.take_of_length_le
  simp; omega
theorem slice_mid (l : List Nat) (i j : Int) (h : 0 ≤ i ∧ i ≤ j ∧ j ≤ l.length) : Txt.slice (S l) (some i) (some j) = S ((l.drop i.toNat).take (j - i).toNat) := by
  have := StrLaws.sliceText_plain (x := S l) (i := i) (j := j) (by simpa using h)
  show StrLaws.sliceText (S l) (some i) (some j) = _
  rw [this]
theorem at_one (l : List Nat) (c i : Nat) : StrLaws.At (S l) (S [c]) (S l).length i ↔ l[i]? = some c := by
  have := StrLaws.subAt_one (S l) c i
  simpa [StrLaws.At] using this
theorem rfind_last (a b : List Nat) (c : Nat) (hb : c ∉ b) : Txt.rfind (S (a ++ c :: b)) (S [c]) = a.length := by
  unfold Txt.rfind
  have ha : StrLaws.At (S (a ++ c :: b)) (S [c]) (S (a ++ c :: b)).length a.length := by rw [at_one]; simp
  rcases StrLaws.last_spec (S (a ++ c :: b)) (S [c]) with ⟨_, h⟩ | ⟨i, hi, hA, hk⟩
  · exact absurd ha (h _)
  · rw [hi]
    have h1 : ¬ i < a.length := fun hlt => hk a.length hlt ha
    have h2 : ¬ a.length < i := by
      intro hlt
      rw [at_one] at hA
      rw [List.getElem?_append_right (by omega)] at hA
      obtain ⟨k, hk'⟩ : ∃ k, i - a.length = k + 1 := ⟨i - a.length - 1, by omega⟩
      rw [hk', List.getElem?_cons_succ] at hA
      exact hb (List.mem_of_getElem? hA)
    have : i = a.length := by omega
    simp [this]
open Builtin Builtin.Str in
theorem rstrip_one (a : List Nat) (c : Nat) (ha : ∀ z, a.getLast? = some z → z ≠ c) : Txt.rstripChars (S (a ++ [c])) (S [c]) = S a := by
  have hg : (S [c]).cps.contains c = true := by simp
  have e1 : ((a ++ [c]).reverse.takeWhile (S [c]).cps.contains) = [c] := by
    rw [List.reverse_append]
    show (c :: a.reverse).takeWhile _ = _
    rw [List.takeWhile_cons_of_pos (by simp)]
    congr 1
    cases h : a.reverse with
    | nil => rfl
    | cons z r =>
      rw [List.takeWhile_cons_of_neg]
      have hz : a.getLast? = some z := by
        rw [List.getLast?_eq_head?_reverse, h]; rfl
      have := ha z hz
      simp
      omega
  have hi : stripHi (S [c]).cps.contains true (S (a ++ [c])) 0 = a.length := by
    unfold stripHi
    rw [if_pos rfl, S_cps, List.drop_zero, e1]
    simp [Str.length]
  unfold Txt.rstripChars Txt.stripBy
  rw [if_neg]
  · unfold PySem.stripped
    have : stripLo (S [c]).cps.contains false (S (a ++ [c])) = 0 := rfl
    rw [this, hi]
    apply Str.ext'
    apply Array.toList_inj.mp
    rw [StrLaws.strSub_toList]
    simp
  · unfold stripSame
    have : stripLo (S [c]).cps.contains false (S (a ++ [c])) = 0 := rfl
    rw [this, hi]
    simp [Str.length]
/-- the parts laid together by c -/
noncomputable def jn (c : Nat) : List (List Nat) → List Nat
  | [] => []
  | [x] => x
  | x :: y :: r => x ++ c :: jn c (y :: r)
theorem join_jn (c : Nat) : ∀ ps : List (List Nat), Str.join (S [c]) (ps.map S) = S (jn c ps)
  | [] => rfl
  | [x] => rfl
  | x :: y :: r => by
    show S x ++ S [c] ++ Str.join (S [c]) ((y :: r).map S) = _
    rw [join_jn c (y :: r), S_append, S_append]
    simp [jn]
theorem jn_inj (c : Nat) : ∀ ps qs : List (List Nat), ps ≠ [] → qs ≠ [] → (∀ p ∈ ps, c ∉ p) → (∀ q ∈ qs, c ∉ q) → jn c ps = jn c qs → ps = qs := by
  have cut : ∀ (x y u v : List Nat), c ∉ x → c ∉ y → x ++ c :: u = y ++ c :: v → x = y ∧ u = v := by
    intro x
    induction x with
    | nil =>
      intro y u v _ hy h
      cases y with
      | nil => simpa using h
      | cons b y => simp at h; exact absurd (by simp [h.1]) hy
    | cons a x ih =>
      intro y u v hx hy h
      cases y with
      | nil => simp at h; exact absurd (by simp [h.1]) hx
      | cons b y =>
        simp at h hx hy
        have := ih y u v hx.2 hy.2 h.2
        exact ⟨by rw [h.1, this.1], this.2⟩
  intro ps
  induction ps with
  | nil => intro qs h; exact absurd rfl h
  | cons x r ih =>
    intro qs _ hq hps hqs h
    cases qs with
    | nil => exact absurd rfl hq
    | cons y t =>
      cases r with
      | nil =>
        cases t with
        | nil => simp [jn] at h; rw [h]
        | cons z t =>
          exfalso
          have hx := hps x (by simp)
          rw [show jn c [x] = x from rfl] at h
          rw [h] at hx
          simp [jn] at hx
      | cons z r =>
        cases t with
        | nil =>
          exfalso
          have hy := hqs y (by simp)
          rw [show jn c [y] = y from rfl] at h
          rw [← h] at hy
          simp [jn] at hy
        | cons z' t =>
          have e := cut x y _ _ (hps x (by simp)) (hqs y (by simp)) h
          rw [e.1, ih (z' :: t) (by simp) (by simp) (fun p hp => hps p (List.mem_cons_of_mem _ hp)) (fun q hq => hqs q (List.mem_cons_of_mem _ hq)) e.2]
theorem split_ne (x y : Str) : Txt.split x y ≠ [] := by
  unfold Txt.split
  split
  · simp
  · split
    · simp
    · rw [StrLaws.partsBetween_eq]
      obtain ⟨p, r, e⟩ := StrLaws.partsFrom_ne x y.length 0 (Builtin.Str.occurrences x y 0 x.length (x.length + 1))
      rw [e]; simp
theorem split_jn (c : Nat) (ps : List (List Nat)) (h0 : ps ≠ []) (hf : ∀ p ∈ ps, c ∉ p) : Txt.split (S (jn c ps)) (S [c]) = ps.map S := by
  have h1 := StrLaws.join_split (S (jn c ps)) (S [c])
  have h2 := StrLaws.split_free (S (jn c ps)) c
  generalize hz : Txt.split (S (jn c ps)) (S [c]) = zs at h1 h2
  have hne : zs ≠ [] := hz ▸ split_ne _ _
  have e : zs = (zs.map fun z => z.cps.toList).map S := by
    rw [List.map_map]
    have : (S ∘ fun z : Str => z.cps.toList) = id := by funext z; simp
    rw [this, List.map_id]
  rw [e, join_jn, S_inj] at h1
  have h3 := jn_inj c (zs.map fun z => z.cps.toList) ps (by simpa using hne) h0 (by
    intro p hp
    obtain ⟨z, hz', rfl⟩ := List.mem_map.mp hp
    exact h2 z hz') hf h1
  rw [e, h3]
theorem starts_one (l : List Nat) (c : Nat) : Txt.startswith (S l) (S [c]) = (l.head? == some c) := by
  have := at_one l c 0
  unfold Txt.startswith
  cases l with
  | nil => simp [Str.length]
  | cons a r =>
    rw [StrLaws.subAt_eq]
    simp [Str.length]
theorem ends_one (l : List Nat) (c : Nat) : Txt.endswith (S l) (S [c]) = (l.getLast? == some c) := by
  unfold Txt.endswith
  rw [StrLaws.subAt_eq, S_cps]
  cases h : l.reverse with
  | nil =>
    have : l = [] := by simpa using h
    subst this; simp [Str.length]
  | cons z r =>
    have : l = r.reverse ++ [z] := by
      have := congrArg List.reverse h; simpa using this
    subst this
    simp [Str.length]
theorem foldl_rep (c : Nat) : ∀ (n : Nat) (acc : Array Nat), (List.replicate n #[c]).foldl (· ++ ·) acc = acc ++ (List.replicate n c).toArray
  | 0, acc => by simp
  | n + 1, acc => by
    rw [List.replicate_succ, List.foldl_cons, foldl_rep c n]
    apply Array.toList_inj.mp
    simp [List.replicate_succ]
theorem mul_one' (c : Nat) (n : Nat) (hn : 1 ≤ n) : Txt.mul (S [c]) n = S (List.replicate n c) := by
  unfold Txt.mul
  rw [if_neg (by omega)]
  by_cases h1 : n = 1
  · subst h1
    rw [if_pos (by simp)]
    rfl
  · rw [if_neg (by simp [Str.length]; omega)]
    apply Str.ext'
    show (List.replicate (n : Int).toNat #[c]).foldl (· ++ ·) #[] = _
    rw [foldl_rep]
    simp
end
section
open _root_.PySem _root_.PySem.W _root_.PyProof.Rows
set_option maxRecDepth 100000
set_option maxHeartbeats 400000
/-- a row of the tree: the path's signs, the kind, the bits, the folder above -/
structure Row where
  p : List Nat
  k : Int
  b : Int
  a : Nat
/-- the path of letters -/
noncomputable def pth (cs : List Nat) : List Nat := cs.flatMap fun c => [47, c]
/-- the letters of a row's path -/
structure TreeOk (rs : List Row) : Prop where
  root : rs[0]? = some ⟨[47], 0, 501, 0⟩
  few : rs.length ≤ 11
  kind : ∀ (j : Nat) (r : Row), rs[j]? = some r → 0 ≤ r.k ∧ r.k < 3
  bits : ∀ (j : Nat) (r : Row), rs[j]? = some r → 0 ≤ r.b ∧ r.b < 512
  up : ∀ (j : Nat) (r : Row), rs[j]? = some r → 0 < j → r.a < j ∧ ∃ u, rs[r.a]? = some u ∧ r.p = (if r.a = 0 then [] else u.p) ++ [47, 96 + j]
theorem pth_snoc (cs : List Nat) (c : Nat) : pth (cs ++ [c]) = pth cs ++ [47, c] := by
  unfold pth; rw [List.flatMap_append]; rfl
theorem pth_len (cs : List Nat) : (pth cs).length = 2 * cs.length := by
  unfold pth
  induction cs with
  | nil => rfl
  | cons c r ih => rw [List.flatMap_cons, List.length_append, ih]; simp; omega
theorem pth_jn : ∀ cs : List Nat, cs ≠ [] → pth cs = 47 :: jn 47 (cs.map fun c => [c])
  | [c], _ => rfl
  | c :: d :: r, _ => by
    have := pth_jn (d :: r) (by simp)
    show 47 :: c :: pth (d :: r) = _
    rw [this]; rfl
theorem pth_jn0 (cs : List Nat) (h : cs ≠ []) : pth cs = jn 47 ([] :: cs.map fun c => [c]) := by
  rw [pth_jn cs h]
  cases cs with
  | nil => exact absurd rfl h
  | cons c r => rfl
/-- a row's letters: those of the folder above and its own -/
theorem letters {rs : List Row} (T : TreeOk rs) : ∀ (n j : Nat) (r : Row), j < n → rs[j]? = some r → 0 < j → ∃ cs : List Nat, (∀ c ∈ cs, 97 ≤ c ∧ c ≤ 106) ∧ cs.length < j ∧ r.p = pth (cs ++ [96 + j]) ∧
    (∃ u, rs[r.a]? = some u ∧ u.p = (if cs = [] then [47] else pth cs)) ∧ (r.a = 0 ↔ cs = []) := by
  intro n
  induction n with
  | zero => intro j r h; omega
  | succ n ih =>
    intro j r hj hr h0
    obtain ⟨ha, u, hu, hp⟩ := T.up j r hr h0
    by_cases hz : r.a = 0
    · refine ⟨[], by simp, by simpa using h0, ?_, ⟨u, hu, ?_⟩, by simp [hz]⟩
      · rw [hp, if_pos hz]; rfl
      · rw [hz, T.root] at hu
        cases hu; rfl
    · obtain ⟨cs, h1, h2, h3, _, _⟩ := ih r.a u (by omega) hu (by omega)
      have hlt := T.few
      have hjl : j < rs.length := by
        by_cases h : j < rs.length
        · exact h
        · rw [List.getElem?_eq_none (by omega)] at hr; cases hr
      refine ⟨cs ++ [96 + r.a], ?_, ?_, ?_, ⟨u, hu, ?_⟩, by simp [hz]⟩
      · intro c hc
        rcases List.mem_append.mp hc with hc | hc
        · exact h1 c hc
        · have := List.mem_singleton.mp hc
          omega
      · rw [List.length_append, List.length_singleton]; omega
      · rw [hp, if_neg hz, h3, pth_snoc (cs ++ [96 + r.a])]
      · rw [if_neg (by simp)]; exact h3
theorem row_letters {rs : List Row} (T : TreeOk rs) {j : Nat} {r : Row} (hr : rs[j]? = some r) (h0 : 0 < j) : ∃ cs : List Nat, (∀ c ∈ cs, 97 ≤ c ∧ c ≤ 106) ∧ cs.length < j ∧ r.p = pth (cs ++ [96 + j]) ∧
    (∃ u, rs[r.a]? = some u ∧ u.p = (if cs = [] then [47] else pth cs)) ∧ (r.a = 0 ↔ cs = []) := letters T (j + 1) j r (by omega) hr h0
theorem row_lt {rs : List Row} (T : TreeOk rs) {j : Nat} {r : Row} (hr : rs[j]? = some r) : j < rs.length ∧ j ≤ 10 := by
  have h1 := T.few
  have h2 : j < rs.length := by
    by_cases h : j < rs.length
    · exact h
    · rw [List.getElem?_eq_none (by omega)] at hr; cases hr
  omega
theorem row_len {rs : List Row} (T : TreeOk rs) {j : Nat} {r : Row} (hr : rs[j]? = some r) : r.p.length ≤ 40 ∧ r.p ≠ [] := by
  have := row_lt T hr
  by_cases h0 : 0 < j
  · obtain ⟨cs, _, h2, h3, _⟩ := row_letters T hr h0
    rw [h3, pth_len]
    rw [List.length_append, List.length_singleton]
    refine ⟨by omega, ?_⟩
    intro e
    have := congrArg List.length e
    rw [pth_len] at this
    simp at this
  · have : j = 0 := by omega
    subst this
    rw [T.root] at hr
    cases hr
    exact ⟨by decide, by decide⟩
theorem row_last {rs : List Row} (T : TreeOk rs) {j : Nat} {r : Row} (hr : rs[j]? = some r) : r.p.getLast? = some (if j = 0 then 47 else 96 + j) := by
  by_cases h0 : 0 < j
  · obtain ⟨cs, _, _, h3, _⟩ := row_letters T hr h0
    rw [h3, pth_snoc, if_neg (by omega)]
    rw [show pth cs ++ [47, 96 + j] = (pth cs ++ [47]) ++ [96 + j] by simp]
    simp
  · have : j = 0 := by omega
    subst this
    rw [T.root] at hr
    cases hr; rfl
/-- the paths differ -/
theorem row_inj {rs : List Row} (T : TreeOk rs) {i j : Nat} {r q : Row} (hr : rs[i]? = some r) (hq : rs[j]? = some q) (h : r.p = q.p) : i = j := by
  have h1 := row_last T hr
  have h2 := row_last T hq
  rw [h, h2] at h1
  have := Option.some.inj h1
  split at this <;> split at this <;> omega
/-- only the root is the slash -/
theorem row_root {rs : List Row} (T : TreeOk rs) {j : Nat} {r : Row} (hr : rs[j]? = some r) : r.p = [47] ↔ j = 0 := by
  constructor
  · intro h; exact row_inj T hr T.root h
  · rintro rfl; rw [T.root] at hr; cases hr; rfl
/-- the folders above, from the next to the root -/
noncomputable def ups (rs : List Row) : Nat → Nat → List Nat
  | 0, _ => []
  | n + 1, j => if j = 0 then [] else match rs[j]? with | some r => r.a :: ups rs n r.a | none => []
theorem ups_same {rs : List Row} (T : TreeOk rs) : ∀ n m j, j ≤ n → j ≤ m → ups rs n j = ups rs m j := by
  intro n
  induction n with
  | zero =>
    intro m j h1 h2
    have : j = 0 := by omega
    subst this
    cases m <;> simp [ups]
  | succ n ih =>
    intro m j h1 h2
    cases m with
    | zero =>
      have : j = 0 := by omega
      subst this; simp [ups]
    | succ m =>
      by_cases h0 : j = 0
      · subst h0; simp [ups]
      · simp only [ups, if_neg h0]
        cases hr : rs[j]? with
        | none => rfl
        | some r =>
          have := (T.up j r hr (by omega)).1
          simp only
          rw [ih m r.a (by omega) (by omega)]
noncomputable def chain (rs : List Row) (j : Nat) : List Nat := ups rs j j
theorem chain_zero (rs : List Row) : chain rs 0 = [] := rfl
theorem chain_up {rs : List Row} (T : TreeOk rs) {j : Nat} {r : Row} (hr : rs[j]? = some r) (h0 : 0 < j) : chain rs j = r.a :: chain rs r.a := by
  have ha := (T.up j r hr h0).1
  obtain ⟨n, rfl⟩ : ∃ n, j = n + 1 := ⟨j - 1, by omega⟩
  unfold chain
  simp only [ups, if_neg (Nat.succ_ne_zero n), hr]
  rw [ups_same T n r.a r.a (by omega) (Nat.le_refl _)]
theorem chain_len {rs : List Row} (T : TreeOk rs) : ∀ n j, j ≤ n → (chain rs j).length ≤ j := by
  intro n
  induction n with
  | zero => intro j h; have : j = 0 := by omega
            subst this; simp [chain_zero]
  | succ n ih =>
    intro j h
    by_cases h0 : 0 < j
    · cases hr : rs[j]? with
      | none =>
        obtain ⟨m, rfl⟩ : ∃ m, j = m + 1 := ⟨j - 1, by omega⟩
        unfold chain; simp [ups, hr]
      | some r =>
        have ha := (T.up j r hr h0).1
        rw [chain_up T hr h0, List.length_cons]
        have := ih r.a (by omega)
        omega
    · have : j = 0 := by omega
      subst this; simp [chain_zero]
/-- others get through the folder: the lowest bit -/
noncomputable def opn (rs : List Row) (i : Nat) : Bool := match rs[i]? with | some r => r.b.fmod 2 == 1 | none => false
noncomputable def openUp (rs : List Row) (j : Nat) : Bool := (chain rs j).all (opn rs)
end
section
open _root_.PySem _root_.PySem.W _root_.PyProof.Rows _root_.PySem.Calls
set_option maxRecDepth 100000
set_option maxHeartbeats 400000
theorem halt_in {P : Prop} (h : Stop P) : P := h
section
variable {prog : Program} {w : World} {A : Around} {E : Value → Shared → Prop} {Q : Flow → Shared → Prop} {s : Shared} {env : Env} {h₀ : Heap} {L : Addr}
/-- the end of a while's turn: two names may have turned -/
noncomputable def WTurn (h₀ : Heap) (L : Addr) (s : Shared) (x y : Str) (m₀ : Str → Option Value) (V : Nat → Value → Value → List (Addr × Obj) → Prop) (n : Nat) (f : Flow) (s₃ : Shared) : Prop :=
  f = .next ∧ ∃ h' tk m' news' n' vx vy, s₃ = { s with heap := h', toks := tk } ∧ Fr h₀ L h' m' ∧ News h₀ L h' news' ∧ n' < n ∧ m' x = some vx ∧ m' y = some vy ∧ (∀ z, z ≠ x → z ≠ y → m' z = m₀ z) ∧ V n' vx vy news'
theorem WTurn.intro {x y : Str} {m₀ m' : Str → Option Value} {V : Nat → Value → Value → List (Addr × Obj) → Prop} {n n' : Nat} {vx vy : Value} {news' : List (Addr × Obj)} {h' : Heap} {tk : Nat}
    (F : Fr h₀ L h' m') (N : News h₀ L h' news') (hn : n' < n) (hx : m' x = some vx) (hy : m' y = some vy) (hm : ∀ z, z ≠ x → z ≠ y → m' z = m₀ z) (hV : V n' vx vy news') : WTurn h₀ L s x y m₀ V n .next { s with heap := h', toks := tk } :=
  ⟨rfl, h', tk, m', news', n', vx, vy, rfl, F, N, hn, hx, hy, hm, hV⟩
theorem two_of {x y : Str} {vx vy : Value} {m m₀ : Str → Option Value} (hx : m x = some vx) (hy : m y = some vy) (h : ∀ z, z ≠ x → z ≠ y → m z = m₀ z) : m = fun z => if z = x then some vx else if z = y then some vy else m₀ z := by
  funext z
  by_cases h1 : z = x
  · rw [if_pos h1, h1, hx]
  · rw [if_neg h1]
    by_cases h2 : z = y
    · rw [if_pos h2, h2, hy]
    · rw [if_neg h2, h z h1 h2]
theorem While_two {x y : Str} {test : Expr} {body : List Stmt} {pos : Pos} {m₀ : Str → Option Value} {news : List (Addr × Obj)} (V : Nat → Value → Value → List (Addr × Obj) → Prop) {n₀ : Nat} {vx₀ vy₀ : Value}
    (F : Fr h₀ L s.heap m₀) (N : News h₀ L s.heap news) (hx : m₀ x = some vx₀) (hy : m₀ y = some vy₀) (hV : V n₀ vx₀ vy₀ news)
    (turn : ∀ n vx vy news₁ h₁ tk₁, Fr h₀ L h₁ (fun z => if z = x then some vx else if z = y then some vy else m₀ z) → News h₀ L h₁ news₁ → V n vx vy news₁ →
      wpAny (model prog w) A (isTrue test env (eval test env)) (fun b s₂ =>
        if b = true then wpAny (model prog w) A (execs body env) (WTurn h₀ L s x y m₀ V n) E s₂ else Q .next s₂) E { s with heap := h₁, toks := tk₁ })
    (hE : PassesOwn (model prog w) A env E := by passes_own) :
    wpAny (model prog w) A (exec (.While test body [] pos) env) Q E s := by
  refine While_inv2 (n₀ := n₀) (fun n m nx => ∃ vx vy, m x = some vx ∧ m y = some vy ∧ (∀ z, z ≠ x → z ≠ y → m z = m₀ z) ∧ V n vx vy nx) F N ⟨vx₀, vy₀, hx, hy, fun _ _ _ => rfl, hV⟩ ?_ hE
  rintro n m₁ nx h tk F₁ N₁ ⟨vx, vy, h1, h2, h3, h4⟩
  rw [two_of h1 h2 h3] at F₁
  refine wpAny_mono (turn n vx vy nx h tk F₁ N₁ h4) (fun b s₂ h₂ => ?_) fun _ _ e => e
  cases b with
  | false => exact h₂
  | true =>
    simp only [if_true] at h₂ ⊢
    refine wpAny_mono h₂ (fun f s₃ h₃ => ?_) fun _ _ e => e
    obtain ⟨rfl, h', tk', m', news', n', vx', vy', rfl, F', N', hn, hx', hy', hm', hV'⟩ := h₃
    exact ⟨h', tk', m', news', n', rfl, F', N', hn, vx', vy', hx', hy', hm', hV'⟩
/-- an item of a list at a place that is known -/
theorem item_at {value slice : PySem.Expr} {l : Addr} {vs : List Value} {k : Int} {u : Tok} {v : Value} {Q : Value → Shared → Prop}
    (hl : s.heap.IsList l vs.toArray) (h0 : 0 ≤ k) (hhi : k < 2 ^ 63) (hx : vs[k.toNat]? = some v) (h : Q v s)
    (hs : subscripted slice false (.ref l) (.int k u) = operate [.ref l, .int k u] (getItem (.ref l) (.int k u)) := by with_unfolding_all rfl) :
    wpAny (model prog w) A (subscriptTail value slice (.ref l) (.int k u)) Q E s :=
  tail_any hl.typeIs slot_list_getitem.lookup (wpAny_getItem_list hl h0 hhi (by simpa using hx) h) hs
end
/-- the tree as it lies in a heap -/
structure RowsAt (h : Heap) (E : Addr) (rs : List Row) (as : List Addr) : Prop where
  len : as.length = rs.length
  list : h.IsList E (as.map Value.ref).toArray
  row : ∀ (j : Nat) (a : Addr) (r : Row), as[j]? = some a → rs[j]? = some r → ∃ t1 t2 t3 t4, h.IsList a #[.str (S r.p) t1, .int r.k t2, .int r.b t3, .int (r.a : Int) t4]
theorem RowsAt.at {h : Heap} {E : Addr} {rs : List Row} {as : List Addr} (R : RowsAt h E rs as) {j : Nat} {r : Row} (hr : rs[j]? = some r) : ∃ a, (as.map Value.ref)[j]? = some (.ref a) ∧ ∃ t1 t2 t3 t4, h.IsList a #[.str (S r.p) t1, .int r.k t2, .int r.b t3, .int (r.a : Int) t4] := by
  have hj : j < as.length := by
    rw [R.len]
    by_cases h : j < rs.length
    · exact h
    · rw [List.getElem?_eq_none (by omega)] at hr; cases hr
  refine ⟨as[j], by rw [List.getElem?_map, List.getElem?_eq_getElem hj]; rfl, R.row j _ r (List.getElem?_eq_getElem hj) hr⟩
end
section
open _root_.PySem _root_.PySem.W _root_.PyProof.Rows _root_.PySem.Calls
open _root_.PyProof.Rows.LCg _root_.PyProof.Rows.LCt
set_option maxRecDepth 100000
set_option maxHeartbeats 400000
section
variable {prog : Program} {w : World} {A : Around} {E : Value → Shared → Prop} {s : Shared} {h₀ : Heap} {L : Addr} {m : Str → Option Value} {env : Env}
/-- a comprehension's turns by a word of what has been laid down; the ledger stays -/
theorem rest_ind {elt : Expr} {x : Str} {scope : Scope} {cl : List (Str × Addr)} {Sx : List (Addr × Obj) → Prop} {P : Nat → Value → Prop} {Fin : List Value → List (Addr × Obj) → Prop} {news : List (Addr × Obj)} {n : Nat} (G : Nat → List Value → Prop)
    (step : ∀ i ys, i < n → G i ys → ∀ v I oI C oC D m₂ h tk (E' : Value → Shared → Prop), P i v → NsObj oC m₂ → m₂ x = some v → Fr h₀ L h m → News h₀ L h ((I, oI) :: (C, oC) :: (D, lst ys) :: news) → Off3 I C D news → ((@Ne Nat I C) ∧ (@Ne Nat I D) ∧ (@Ne Nat C D)) →
      wpAny (model prog w) A (eval elt (compEnvC scope cl C env)) (CompEnd h₀ L m { s with heap := h, toks := tk } I oI C oC D (lst ys) Sx (fun y n' => Stop (n' = news ∧ G (i + 1) (ys ++ [y])))) E' { s with heap := h, toks := tk })
    (done : ∀ ys, G n ys → Fin ys news) : ∀ k i ys, n - i = k → i ≤ n → G i ys → CompRest prog w A h₀ L m env elt x scope cl s Sx P Fin k i ys news := by
  intro k
  induction k with
  | zero =>
    intro i ys hk hi hG
    have : i = n := by omega
    subst this
    exact done ys hG
  | succ k ih =>
    intro i ys hk hi hG v I oI C oC D m₂ h tk E' hP hC hx F N off ne
    refine wpAny_mono (step i ys (by omega) hG v I oI C oC D m₂ h tk E' hP hC hx F N off ne) (fun y s₂ h₂ => ?_) fun _ _ e => e
    obtain ⟨h', tk', news', e1, F', N', off', hS, e2, hG'⟩ := h₂
    subst e2
    exact ⟨h', tk', news', e1, F', N', off', hS, ih (i + 1) _ (by omega) (by omega) hG'⟩
theorem restT_ind {ct elt : Expr} {x : Str} {scope : Scope} {cl : List (Str × Addr)} {Sx : List (Addr × Obj) → Prop} {P : Nat → Value → Prop} {Fin : List Value → List (Addr × Obj) → Prop} {news : List (Addr × Obj)} {n : Nat} (G : Nat → List Value → Prop)
    (step : ∀ i ys, i < n → G i ys → ∀ v I oI C oC D m₂ h tk (E' : Value → Shared → Prop), P i v → NsObj oC m₂ → m₂ x = some v → Fr h₀ L h m → News h₀ L h ((I, oI) :: (C, oC) :: (D, lst ys) :: news) → Off3 I C D news → ((@Ne Nat I C) ∧ (@Ne Nat I D) ∧ (@Ne Nat C D)) →
      wpAny (model prog w) A (isTrue ct (compEnvC scope cl C env) (eval ct (compEnvC scope cl C env))) (fun ok s' => if ok = true then
        wpAny (model prog w) A (eval elt (compEnvC scope cl C env)) (CompEnd h₀ L m { s with heap := h, toks := tk } I oI C oC D (lst ys) Sx (fun y n' => Stop (n' = news ∧ G (i + 1) (ys ++ [y])))) E' s'
        else CompEnd h₀ L m { s with heap := h, toks := tk } I oI C oC D (lst ys) Sx (fun _ n' => Stop (n' = news ∧ G (i + 1) ys)) Value.none s') E' { s with heap := h, toks := tk })
    (done : ∀ ys, G n ys → Fin ys news) : ∀ k i ys, n - i = k → i ≤ n → G i ys → CompRestT prog w A h₀ L m env ct elt x scope cl s Sx P Fin k i ys news := by
  intro k
  induction k with
  | zero =>
    intro i ys hk hi hG
    have : i = n := by omega
    subst this
    exact done ys hG
  | succ k ih =>
    intro i ys hk hi hG v I oI C oC D m₂ h tk E' hP hC hx F N off ne
    refine wpAny_mono (step i ys (by omega) hG v I oI C oC D m₂ h tk E' hP hC hx F N off ne) (fun ok s₂ h₂ => ?_) fun _ _ e => e
    cases ok with
    | true =>
      simp only [if_true] at h₂ ⊢
      refine wpAny_mono h₂ (fun y s₃ h₃ => ?_) fun _ _ e => e
      obtain ⟨h', tk', news', e1, F', N', off', hS, e2, hG'⟩ := h₃
      subst e2
      exact ⟨h', tk', news', e1, F', N', off', hS, ih (i + 1) _ (by omega) (by omega) hG'⟩
    | false =>
      simp only [Bool.false_eq_true, if_false] at h₂ ⊢
      obtain ⟨h', tk', news', e1, F', N', off', hS, e2, hG'⟩ := h₂
      subst e2
      exact ⟨h', tk', news', e1, F', N', off', hS, ih (i + 1) _ (by omega) (by omega) hG'⟩
end
theorem str_canLay : ∀ ns : List Str, (∀ c ∈ ns, PyData.strOk c = true) → PyData.canLayAll0 (ns.map PyData.str) = true
  | [], _ => rfl
  | c :: r, h => by simp [PyData.canLayAll0, PyData.canLay0, str_canLay r fun c hc => h c (List.mem_cons_of_mem _ hc), h c (List.mem_cons_self ..)]
theorem str_depth : ∀ ns : List Str, PyData.depthAll (ns.map PyData.str) = 0
  | [] => rfl
  | _ :: r => by simp [PyData.depthAll, PyData.depth, str_depth r]
theorem str_shaped (ns : List Str) (h : ∀ c ∈ ns, PyData.strOk c = true) : SeqAt.shaped (.list (ns.map PyData.str)) = true := by
  simp [SeqAt.shaped, PyData.canLay0, PyData.depth, str_canLay ns h, str_depth]
theorem str_same : ∀ ns ms : List Str, PySem.Spec.sameAll (ns.map PyData.str) (ms.map PyData.str) = decide (ns = ms)
  | [], [] => by simp [PySem.Spec.sameAll]
  | [], _ :: _ => by simp [PySem.Spec.sameAll]
  | _ :: _, [] => by simp [PySem.Spec.sameAll]
  | a :: r, b :: t => by
    simp only [List.map_cons, PySem.Spec.sameAll, PySem.Spec.same, str_same r t]
    by_cases h : a = b <;> by_cases h' : r = t <;> simp [h, h']
theorem bool_canLay : ∀ ns : List Bool, PyData.canLayAll0 (ns.map PyData.bool) = true
  | [] => rfl
  | _ :: r => by simp [PyData.canLayAll0, PyData.canLay0, bool_canLay r]
theorem bool_depth : ∀ ns : List Bool, PyData.depthAll (ns.map PyData.bool) = 0
  | [] => rfl
  | _ :: r => by simp [PyData.depthAll, PyData.depth, bool_depth r]
theorem bool_shaped (ns : List Bool) : SeqAt.shaped (.list (ns.map PyData.bool)) = true := by
  simp [SeqAt.shaped, PyData.canLay0, PyData.depth, bool_canLay, bool_depth]
theorem bool_same : ∀ ns ms : List Bool, PySem.Spec.sameAll (ns.map PyData.bool) (ms.map PyData.bool) = decide (ns = ms)
  | [], [] => by simp [PySem.Spec.sameAll]
  | [], _ :: _ => by simp [PySem.Spec.sameAll]
  | _ :: _, [] => by simp [PySem.Spec.sameAll]
  | a :: r, b :: t => by
    simp only [List.map_cons, PySem.Spec.sameAll, PySem.Spec.same, bool_same r t]
    by_cases h : a = b <;> by_cases h' : r = t <;> simp [h, h']
theorem strOk_S {l : List Nat} (h : ∀ c ∈ l, c < 128) : PyData.strOk (S l) = true := by
  unfold PyData.strOk
  simp
  intro c hc
  have := h c hc
  omega
theorem strs_carried : ∀ l : List (Str × Tok), CarriedAll (strValues l) ((l.map (·.1)).map PyData.str)
  | [] => .nil
  | (c, t) :: r => .cons (.str c t) (strs_carried r)
theorem bools_carried : ∀ l : List Bool, CarriedAll (l.map Value.bool) (l.map PyData.bool)
  | [] => .nil
  | c :: r => .cons (.bool c) (bools_carried r)
section
variable {prog : Program} {w : World} {A : Around} {E : Value → Shared → Prop} {s : Shared} {a b : Addr} {Q : Value → Shared → Prop}
theorem eq_strs {p q : List (Str × Tok)} (ha : s.heap.IsList a (strValues p).toArray) (hb : s.heap.IsList b (strValues q).toArray) (hp : ∀ c ∈ p.map (·.1), PyData.strOk c = true) (hq : ∀ c ∈ q.map (·.1), PyData.strOk c = true) (hu : A.units + 64 < cLine) (h : Q (.bool (decide (p.map (·.1) = q.map (·.1)))) s) :
    wpAny (model prog w) A (compareOp .Eq (.ref a) (.ref b)) Q E s :=
  eq_dataH_same (reads_newData ha (strs_carried p)) (reads_newData hb (strs_carried q)) (str_shaped _ hp) (str_shaped _ hq) hu (SeqAt.noMix_of_shape (.list .str) rfl _ _ (list_map_has fun _ => rfl) (list_map_has fun _ => rfl)) (by
    simp only [PySem.Spec.same]; rw [str_same]; exact h)
theorem ne_strs {p q : List (Str × Tok)} (ha : s.heap.IsList a (strValues p).toArray) (hb : s.heap.IsList b (strValues q).toArray) (hp : ∀ c ∈ p.map (·.1), PyData.strOk c = true) (hq : ∀ c ∈ q.map (·.1), PyData.strOk c = true) (hu : A.units + 64 < cLine) (h : Q (.bool (!decide (p.map (·.1) = q.map (·.1)))) s) :
    wpAny (model prog w) A (compareOp .NotEq (.ref a) (.ref b)) Q E s :=
  ne_dataH_same (reads_newData ha (strs_carried p)) (reads_newData hb (strs_carried q)) (str_shaped _ hp) (str_shaped _ hq) hu (SeqAt.noMix_of_shape (.list .str) rfl _ _ (list_map_has fun _ => rfl) (list_map_has fun _ => rfl)) (by
    simp only [PySem.Spec.same]; rw [str_same]; exact h)
theorem eq_bools {p q : List Bool} (ha : s.heap.IsList a (p.map Value.bool).toArray) (hb : s.heap.IsList b (q.map Value.bool).toArray) (hu : A.units + 64 < cLine) (h : Q (.bool (decide (p = q))) s) :
    wpAny (model prog w) A (compareOp .Eq (.ref a) (.ref b)) Q E s :=
  eq_dataH_same (reads_newData ha (bools_carried p)) (reads_newData hb (bools_carried q)) (bool_shaped _) (bool_shaped _) hu (SeqAt.noMix_of_shape (.list .bool) rfl _ _ (list_map_has fun _ => rfl) (list_map_has fun _ => rfl)) (by
    simp only [PySem.Spec.same]; rw [bool_same]; exact h)
end
end
section
open _root_.PySem _root_.PySem.W _root_.PyProof.Rows _root_.PySem.Calls
open _root_.PySem.Sem (wp)
set_option maxRecDepth 100000
set_option maxHeartbeats 1000000
section
variable {M : Model} {A : Around} {s : Shared}
theorem codeG_loop {c : Code} {R : Flow → Shared → Prop} (hq : c.quiet = true) (hn : noDec c = true) (I : Nat → Shared → Prop)
    (turn : ∀ n s, I n s → wpG M (A.under c) (M.den c)
      (fun fin s' => match fin with
        | .done f => R f s'
        | .again c' => (c' = c ∧ ∃ m, m < n ∧ I m s') ∨ (c'.quiet = true ∧ codeG M A c' R s')) s)
    (n : Nat) (h : I n s) : codeG M A c R s := by
  induction n using Nat.strongRecOn generalizing s with
  | ind n ih =>
    refine codeG_tree hn (G_mono (turn n s h) fun fin s' hf => ?_)
    cases fin with
    | done f => exact hf
    | again c' =>
      rcases hf with ⟨rfl, m, hm, hI⟩ | hf
      · exact ⟨hq, ih m hm hI⟩
      · exact hf
end
section
variable {prog : Program} {w : World} {A : Around} {s : Shared} {env : Env} {h₀ : Heap} {target : Expr} {body : List Stmt}
/-- the end of a turn -/
noncomputable def GTurn (h₀ : Heap) (L : Addr) (s : Shared) (I : Addr) (it : Obj) (J : (Str → Option Value) → List (Addr × Obj) → Prop) (f : Flow) (s₃ : Shared) : Prop :=
  f = .next ∧ ∃ h' tk m' news', s₃ = { s with heap := h', toks := tk } ∧ Fr h₀ L h' m' ∧ News h₀ L h' ((I, it) :: news') ∧ (∀ p ∈ news', p.1 ≠ I) ∧ J m' news'
theorem codeG_for_list {R : Flow → Shared → Prop} {I ax : Addr} {vs : List Value} {m₀ : Str → Option Value} {news₀ : List (Addr × Obj)} (J : Nat → (Str → Option Value) → List (Addr × Obj) → Prop)
    (hh : A.handled = none) (hl : h₀.IsList ax vs.toArray) (hI0 : h₀.get? I = none) (hIL : I ≠ env.locals) (hit : s.heap.IsListIter I ax 0)
    (F : Fr h₀ env.locals s.heap m₀) (N : News h₀ env.locals s.heap news₀) (hoff : ∀ p ∈ news₀, p.1 ≠ I) (h0 : J 0 m₀ news₀)
    (step : ∀ i v m news h tk (it : Obj), vs[i]? = some v → J i m news → (∀ p ∈ news, p.1 ≠ I) → Fr h₀ env.locals h m → News h₀ env.locals h ((I, it) :: news) →
      wpG (model prog w) A (assign target env v) (fun _ s₂ => wpG (model prog w) A (execs body env) (GTurn h₀ env.locals s I it (J (i + 1))) s₂) { s with heap := h, toks := tk })
    (done : ∀ m news h tk, J vs.length m news → Fr h₀ env.locals h m → News h₀ env.locals h news → R .next { s with heap := h, toks := tk }) :
    codeG (model prog w) A (.forLoop target (.ref I) body [] env) R s := by
  refine codeG_loop rfl rfl (fun k s' => ∃ h' tk m' news' i, s' = { s with heap := h', toks := tk } ∧ h'.IsListIter I ax i ∧ Fr h₀ env.locals h' m' ∧ News h₀ env.locals h' news' ∧ (∀ p ∈ news', p.1 ≠ I) ∧ J i m' news' ∧ i ≤ vs.length ∧ k = vs.length + 1 - i) ?_ (vs.length + 1)
    ⟨s.heap, s.toks, m₀, news₀, 0, rfl, hit, F, N, hoff, h0, Nat.zero_le _, rfl⟩
  rintro k s' ⟨h', tk, m', news', i, rfl, hit', F', N', hoff', hJ, hi, rfl⟩
  show wpG _ A ((forTurn target (.ref I) body [] env).onRaise (fun x => do noteFrame x env; theTreesLotGoes x)) _ _
  refine G_onRaise ?_
  simp only [forTurn]
  refine G_ofB (wpAny_standAt ?_)
  have hls : h'.IsList ax vs.toArray := hl.at fun o e => F'.keep ax o e
  by_cases hlt : i < vs.length
  · refine G_bind (G_onRaise (G_of (wpAny_pyNext_list_item hit' hls (x := vs[i]) (by simp [hlt]) fun h₁ hit₁ hs₁ => ?_)))
    have F₁ := F'.change hs₁ hIL hI0
    have N₁ : News h₀ env.locals h₁ news' := fun p hp => ⟨hs₁.extBut _ _ (hoff' p hp) (N' p hp).1, (N' p hp).2⟩
    obtain ⟨it, hgi, hci, hdi⟩ := id hit₁
    have N₂ : News h₀ env.locals h₁ ((I, it) :: news') := fun p hp => by
      rcases List.mem_cons.mp hp with rfl | hp
      · exact ⟨hgi, hIL, hI0⟩
      · exact N₁ p hp
    dsimp only
    refine G_ofB (letGo_listiter hit₁ ?_)
    refine G_bind (G_mono (step i vs[i] m' news' h₁ tk it (by simp [hlt]) hJ hoff' F₁ N₂) fun _ s₂ h₂ => G_bind (G_mono h₂ fun f s₃ h₃ => ?_))
    obtain ⟨rfl, h₃, tk₃, m₃, news₃, rfl, F₃, N₃, off₃, hJ₃⟩ := h₃
    exact G_pure (.inl ⟨rfl, vs.length + 1 - (i + 1), by omega, h₃, tk₃, m₃, news₃, i + 1, rfl, ⟨it, (N₃ _ (List.mem_cons_self ..)).1, hci, hdi⟩, F₃, fun p hp => N₃ p (List.mem_cons_of_mem _ hp), off₃, hJ₃, hlt, rfl⟩)
  · obtain rfl : i = vs.length := by omega
    refine G_bind (G_onRaise (G_of (wpAny_pyNext_list_end hh hit' hls (by simp) fun h₁ hs₁ => ?_)))
    have F₁ : Fr h₀ env.locals h₁ m' := ⟨F'.ns.at' fun o e => hs₁ _ o (Ne.symm hIL) e, fun b o e => hs₁ b o (fun q => by rw [q, hI0] at e; cases e) (F'.keep b o e), F'.above⟩
    have N₁ : News h₀ env.locals h₁ news' := fun p hp => ⟨hs₁ _ _ (hoff' p hp) (N' p hp).1, (N' p hp).2⟩
    dsimp only
    exact G_pure (.inr ⟨rfl, codeG_of (codeAny_block (wpAny_execs_nil ⟨.next, rfl, done m' news' h₁ tk hJ F₁ N₁⟩))⟩)
/-- a for over a list that stood ahead of the call, on clean stacks -/
theorem G_For_base {iter : Expr} {pos : Pos} {ax : Addr} {vs : List Value} {Q : Flow → Shared → Prop} {m₀ : Str → Option Value} {news₀ : List (Addr × Obj)} (J : Nat → (Str → Option Value) → List (Addr × Obj) → Prop)
    (hh : A.handled = none) (hl : h₀.IsList ax vs.toArray) (F : Fr h₀ env.locals s.heap m₀) (N : News h₀ env.locals s.heap news₀) (h0 : J 0 m₀ news₀)
    (hi : ∀ (Q' : Value → Shared → Prop), Q' (.ref ax) s → wpAny (model prog w) A (eval iter env) Q' nev s)
    (step : ∀ I i v m news h tk (it : Obj), vs[i]? = some v → J i m news → (∀ p ∈ news, p.1 ≠ I) → Fr h₀ env.locals h m → News h₀ env.locals h ((I, it) :: news) →
      wpG (model prog w) A (assign target env v) (fun _ s₂ => wpG (model prog w) A (execs body env) (GTurn h₀ env.locals s I it (J (i + 1))) s₂) { s with heap := h, toks := tk })
    (done : ∀ m news h tk, J vs.length m news → Fr h₀ env.locals h m → News h₀ env.locals h news → Q .next { s with heap := h, toks := tk })
    (hs : ∀ x, foldedSetIterable iter env x = pure x := by intro _; rfl) :
    wpG (model prog w) A (exec (.For target iter body [] pos) env) Q s := by
  rw [exec_For]
  have hls : s.heap.IsList ax vs.toArray := hl.at fun o e => F.keep ax o e
  have hlt : ax < s.heap.objs.size := by obtain ⟨_, e, _⟩ := hls; exact Heap.lt_size e
  refine G_ofB (wpAny_standAt (G_ofB (hi _ (G_ofB (wpAny_of_eq (hs _) (G_ofB (wpAny_standAt (G_ofB (wpAny_holding (wpAny_pyIter_list hls ?_))))))))))
  refine G_runOwn ?_
  exact codeG_for_list (s := { s with heap := _ }) J hh hl (next_is_new F) (fun e => Nat.lt_irrefl _ (e ▸ F.ns.lt)) ⟨_, Heap.get?_push_size _ rfl, rfl, rfl⟩ (F.push _) (fun p hp => ⟨Heap.get?_push_of_some _ (N p hp).1, (N p hp).2⟩)
    (fun p hp => Nat.ne_of_lt (Heap.lt_size (N p hp).1)) h0 (fun i v m news h tk it a b c d e => step _ i v m news h tk it a b c d e) done
end
end
section
open _root_.PySem _root_.PySem.W _root_.PyProof.Rows _root_.PySem.Calls
open _root_.PyProof.Rows.LCg
open _root_.PySem.Sem (wp)
set_option maxRecDepth 100000
set_option maxHeartbeats 2000000
section
variable {M : Model} {A : Around} {s : Shared} {env : Env}
theorem G_attempt {m : Sem α} {Q : Except Value α → Shared → Prop} (h : wpG M A m (fun a => Q (.ok a)) s) : wpG M A m.attempt Q s := fun Γ p hΓ h1 h2 => by
  rw [Sem.wp_attempt]
  exact Sem.wp_mono M Γ m (fun _ _ _ x => x) (fun _ _ _ x => x.elim) p s (h Γ p hΓ h1 h2)
theorem G_standIf {α : Type} {c : Prop} [Decidable c] {pos : Pos} {k : PUnit → Sem α} {Q : α → Shared → Prop} (h : wpG M A (k ()) Q s) : wpG M A (if c then (standAt pos >>= k) else k ()) Q s := by
  split
  · exact G_ofB (wpAny_standAt h)
  · exact h
/-- a comprehension's block, on clean stacks -/
theorem G_comprehension {e : Expr} {scope : Scope} {pos : Pos} {newAcc first : Sem Value} {g : Comprehension} {gs : List Comprehension} {cl : List (Str × Addr)} {Q : Value → Shared → Prop}
    (hcl : clausesOf e = g :: gs) (hs : ∀ x, foldedSetIterable g.iter env x = pure x) (hclos : closureFor scope env = pure cl)
    (hkind : scope.kind = .function) (hnames : ∀ x ∈ scope.names, x.2 = .local → scope.names.lookup x.1 = some .local)
    (h : wpAny M A first (fun x s₁ => wpAny M A (pyIter x) (fun it s₂ => wpAny M A newAcc (fun acc s₃ =>
      wpAny M A (newFunctionEnv scope env.globals cl [] env.qual none .none (some env)) (fun cenv s₄ =>
        codeG M A (.compStart e 0 it acc { cenv with scope := relabel scope env }) (fun _ s' => ∃ m, s'.heap.Ns cenv.locals m ∧ ∀ h', Heap.SameBut cenv.locals s'.heap h' → Q acc { s' with heap := h' }) s₄) nev s₃) nev s₂) nev s₁) nev s) :
    wpG M A (comprehension e scope env pos newAcc false first none) Q s := by
  unfold comprehension
  rw [hclos, hcl]
  refine G_ofB (wpAny_mono h (fun x s₁ h₁ => G_ofB (wpAny_standAt (G_ofB (wpAny_of_eq (hs x) (G_ofB (wpAny_holding (wpAny_mono h₁ (fun it s₂ h₂ =>
    G_standIf (G_ofB (wpAny_mono h₂ (fun acc s₃ h₃ => G_ofB (wpAny_pure (G_ofB (wpAny_mono h₃ (fun cenv s₄ h₄ => ?_) fun _ _ h' => h')))) fun _ _ h' => h')))
      fun _ _ h' => h'))))))) fun _ _ h' => h')
  dsimp only
  have hv : ∀ x ∈ (scope.names.filter fun x => (x.2 == .local || x.2 == .cell) && x.1 != (".0" : Str)).reverse, x.2 = .local →
      Env.kindOf { cenv with scope := relabel scope env } x.1 = some .local := fun x hx hl => lookup_relabel_local (hnames x (List.mem_filter.mp (List.mem_reverse.mp hx)).1 hl)
  refine G_holding (G_bind (G_attempt (G_holding (G_run (codeG_mono h₄ fun f s' hr => ?_)))))
  obtain ⟨m, hn, hr⟩ := hr
  exact G_ofB (wpAny_holding (wpAny_comp_letGo (cenv := { cenv with scope := relabel scope env }) hkind _ s' m hv hn fun h' m' _ hs' => G_pure (hr h' hs')))
end
section
variable {prog : Program} {w : World} {A : Around} {s : Shared} {env : Env} {R : Flow → Shared → Prop}
theorem codeG_compStart {elt target iter ifs rest scope pos it acc env}
    (h0 : codeG (model prog w) A (.compLoop (.ListComp elt (⟨target, iter, ifs, 0⟩ :: rest) scope pos) 0 it acc env) R s)
    (h : wpAny (model prog w) A (pyIter it) (fun it' s' => codeG (model prog w) A (.compLoop (.ListComp elt (⟨target, iter, ifs, 0⟩ :: rest) scope pos) 0 it' acc env) R s') nev s) :
    codeG (model prog w) A (.compStart (.ListComp elt (⟨target, iter, ifs, 0⟩ :: rest) scope pos) 0 it acc env) R s := by
  refine codeG_tree rfl ?_
  show wpG _ _ ((compStart (.ListComp elt (⟨target, iter, ifs, 0⟩ :: rest) scope pos) 0 it acc env).onRaise (fun x => do noteFrame x env; standAt theWindowsPlace)) _ s
  refine G_onRaise ?_
  unfold compStart
  show wpG _ _ (ask >>= _) _ s
  refine G_ofB (wpAny_askSetting ?_)
  split
  · first
      | exact G_ofB (wpAny_pure (G_pure (And.intro rfl h0)))
      | exact G_pure (And.intro rfl h0)
  · first
      | exact G_ofB (wpAny_rule (G_ofB (wpAny_standAt (G_ofB (wpAny_mono h (fun it' s' h' => G_pure (And.intro rfl h')) fun _ _ x => x)))))
      | (refine G_ofB (wpAny_rule ?_); show wpG _ _ (standAt iter.pos >>= _) _ s; exact G_ofB (wpAny_standAt (G_ofB (wpAny_mono h (fun it' s' h' => G_pure (And.intro rfl h')) fun _ _ x => x))))
theorem codeG_compLoop_none {elt target iter ct : Expr} {scope : Scope} {pos : Pos} {it acc : Value} {env : Env} (I : Nat → Shared → Prop)
    (turn : ∀ n s, I n s → wpAny (model prog w) A (pyNext it) (fun r s₁ => match r with
      | none => R .next s₁
      | some v => wpAny (model prog w) A (assign target env v) (fun _ s₂ =>
          wpG (model prog w) A (isTrue ct env (eval ct env)) (fun ok s₃ => ok = false ∧ ∃ m, m < n ∧ I m s₃) s₂) nev s₁) nev s)
    (n : Nat) (h : I n s) (ht : ∀ v, letOwnedTupleGo target it v = pure () := by intro _; rfl) :
    codeG (model prog w) A (.compLoop (.ListComp elt [⟨target, iter, [ct], 0⟩] scope pos) 0 it acc env) R s := by
  refine codeG_loop rfl rfl I (fun n s hI => ?_) n h
  show wpG _ A ((compTurn (.ListComp elt [⟨target, iter, [ct], 0⟩] scope pos) 0 it acc env).onRaise (fun x => do noteFrame x env; theTreesLotGoes x)) _ s
  refine G_onRaise ?_
  rw [compTurn_list]
  refine G_ofB (wpAny_standAt (G_ofB (wpAny_mono (turn n s hI) (fun r s₁ h₁ => ?_) fun _ _ h' => h')))
  cases r with
  | none => exact G_pure h₁
  | some v =>
    refine G_ofB (wpAny_of_eq (ht v) ?_)
    refine G_ofB (wpAny_mono h₁ (fun _ s₂ h₂ => ?_) fun _ _ h' => h')
    refine G_bind (Q := _) ?_
    simp only [List.forIn_cons, List.forIn_nil, if_true]
    refine G_bind (G_bind (G_mono h₂ fun b s₃ h₃ => G_pure (G_pure ?_)))
    obtain ⟨rfl, h₃⟩ := h₃
    exact G_pure (.inl ⟨rfl, h₃⟩)
end
section
variable {prog : Program} {w : World} {A : Around} {s : Shared} {h₀ : Heap} {L : Addr} {m : Str → Option Value} {env : Env}
/-- a list comprehension over a list of the ledger or of the ground, whose one test is false for every item -/
theorem G_ListComp_none {ct elt iter : Expr} {x : Str} {px : Pos} {scope : Scope} {cl : List (Str × Addr)} {pos : Pos} {Q : Value → Shared → Prop} {ax : Addr} {its : Array Value} {news : List (Addr × Obj)}
    (hh : A.handled = none) (F₀ : Fr h₀ L s.heap m) (N₀ : News h₀ L s.heap news) (S₀ : SrcAt h₀ ax its news) (hsz : its.size ≤ sizeLine)
    (hi : ∀ (Q' : Value → Shared → Prop), (∀ tk, Q' (.ref ax) { s with toks := tk }) → wpAny (model prog w) A (eval iter env) Q' nev s)
    (step : ∀ (i : Nat) (v : Value) (I : Addr) (oI : Obj) (C : Addr) (oC : Obj) (D : Addr) (m₂ : Str → Option Value) (h : Heap) (tk : Nat), its[i]? = some v → NsObj oC m₂ → m₂ x = some v → Fr h₀ L h m → News h₀ L h ((I, oI) :: (C, oC) :: (D, lst []) :: news) →
      wpG (model prog w) A (isTrue ct (compEnvC scope cl C env) (eval ct (compEnvC scope cl C env)))
        (fun ok s' => ok = false ∧ ∃ h' tk', s' = { s with heap := h', toks := tk' } ∧ Fr h₀ L h' m ∧ News h₀ L h' ((I, oI) :: (C, oC) :: (D, lst []) :: news)) { s with heap := h, toks := tk })
    (done : ∀ D h tk, Fr h₀ L h m → News h₀ L h ((D, lst []) :: news) → Q (.ref D) { s with heap := h, toks := tk })
    (hclos : closureFor scope env = pure cl) (hcell : ∀ y ∈ scope.names, y.2 ≠ .cell) (hkind : scope.kind = .function)
    (hnames : ∀ y ∈ scope.names, y.2 = .local → scope.names.lookup y.1 = some .local) (hx : scope.names.lookup x = some .local)
    (hs : ∀ x, foldedSetIterable iter env x = pure x := by intro _; rfl) :
    wpG (model prog w) A (eval (.ListComp elt [⟨.Name x px, iter, [ct], 0⟩] scope pos) env) Q s := by
  rw [eval_ListComp]
  refine G_comprehension rfl hs hclos hkind hnames (hi _ fun tk0 => ?_)
  have hl := S₀.list F₀.keep N₀
  have hlt : ax < s.heap.objs.size := by obtain ⟨_, e, _⟩ := hl; exact Heap.lt_size e
  refine wpAny_pyIter_list hl ?_
  have up : ∀ b o, s.heap.get? b = some o → (s.heap.push { cls := .type "list_iterator", data := .fields #[.ref ax, .int 0 0] }).get? b = some o := fun b o e => Heap.get?_push_of_some _ e
  generalize hH1 : s.heap.push { cls := .type "list_iterator", data := .fields #[.ref ax, .int 0 0] } = H1 at up ⊢
  have hI1 : H1.IsListIter s.heap.objs.size ax 0 := ⟨_, hH1 ▸ Heap.get?_push_size _ rfl, rfl, rfl⟩
  have hs1 : H1.objs.size = s.heap.objs.size + 1 := by rw [← hH1, Heap.size_push]
  generalize hIe : s.heap.objs.size = I at hI1 hs1 hlt ⊢
  have F1 : Fr h₀ L H1 m := F₀.keeps up
  have N1 : News h₀ L H1 news := N₀.grown up
  refine wpAny_newObj_type (wpAny_newFunctionEnv hcell (by intro y hy; simp at hy) (fun h₁ hns₁ hsb₁ => ?_) hkind)
  dsimp only at hns₁ hsb₁ ⊢
  generalize hH2 : H1.push { cls := .type "list", dict := none, data := .seq ([] : List Value).toArray } = H2 at hns₁ hsb₁ ⊢
  have hC : H2.objs.size = H1.objs.size + 1 := by rw [← hH2, Heap.size_push]
  generalize hDe : H1.objs.size = D at *
  generalize hCe : H2.objs.size = C at *
  have hDC : D ≠ C := by rw [hC]; exact Nat.ne_of_lt (Nat.lt_succ_self _)
  have hIC : I ≠ C := by rw [hC, hs1]; exact Nat.ne_of_lt (by omega)
  have hID : I ≠ D := by rw [hs1]; exact Nat.ne_of_lt (Nat.lt_succ_self _)
  have below : ∀ b, b < H1.objs.size → b ≠ C ∧ b ≠ D := fun b hb => by
    rw [hDe] at hb
    exact ⟨by rw [hC]; exact Nat.ne_of_lt (Nat.lt_succ_of_lt hb), Nat.ne_of_lt hb⟩
  have old : ∀ b o, H1.get? b = some o → h₁.get? b = some o := fun b o e => hsb₁.extBut b o (below b (Heap.lt_size e)).1 (Heap.get?_push_of_some _ (hH2 ▸ Heap.get?_push_of_some _ e))
  have hacc : h₁.get? D = some (lst []) := hsb₁.extBut _ _ hDC (Heap.get?_push_of_some _ (by rw [← hH2, ← hDe]; exact Heap.get?_push_size _ rfl))
  have fresh₀ : ∀ a, s.heap.objs.size ≤ a → h₀.get? a = none := fun a ha => by
    cases e : h₀.get? a with
    | none => rfl
    | some o' => exact absurd (Heap.lt_size (F₀.keep a o' e)) (Nat.not_lt.mpr ha)
  have hI₀ : h₀.get? I = none := fresh₀ _ (by omega)
  have hD₀ : h₀.get? D = none := fresh₀ _ (by omega)
  have hC₀ : h₀.get? C = none := fresh₀ _ (by omega)
  have hLlt : @LT.lt Nat _ L s.heap.objs.size := F₀.ns.lt
  have hIL : I ≠ L := by intro e; have e' : @Eq Nat I L := e; omega
  have hDL : D ≠ L := by intro e; have e' : @Eq Nat D L := e; omega
  have hCL : C ≠ L := by intro e; have e' : @Eq Nat C L := e; omega
  have off : ∀ p ∈ news, p.1 ≠ I ∧ p.1 ≠ C ∧ p.1 ≠ D := fun p hp => by
    have : @LT.lt Nat _ p.1 s.heap.objs.size := Heap.lt_size (N₀ p hp).1
    refine ⟨fun e => ?_, fun e => ?_, fun e => ?_⟩ <;> (have e' : @Eq Nat p.1 _ := e; omega)
  have loop : ∀ s₃ : Shared, (∃ tk, s₃ = { s with heap := h₁, toks := tk }) → codeG (model prog w) A (.compLoop (.ListComp elt [⟨.Name x px, iter, [ct], 0⟩] scope pos) 0 (.ref I) (.ref D) (compEnvC scope cl C env))
      (fun _ s' => ∃ m', s'.heap.Ns C m' ∧ ∀ h', Heap.SameBut C s'.heap h' → Q (.ref D) { s' with heap := h' }) s₃ := by
    rintro s₃ ⟨tk, rfl⟩
    refine codeG_compLoop_none (fun k s' => ∃ h' tk i m', s' = { s with heap := h', toks := tk } ∧ i ≤ its.size ∧ k = its.size + 1 - i ∧ h'.IsListIter I ax i ∧ Fr h₀ L h' m ∧ h'.Ns C m' ∧ News h₀ L h' ((D, lst []) :: news)) ?_ (its.size + 1)
      ⟨h₁, tk, 0, _, rfl, Nat.zero_le _, rfl, ⟨_, old _ _ hI1.choose_spec.1, hI1.choose_spec.2⟩, F1.keeps old, hns₁, fun p hp => ?_⟩
    · rintro k s' ⟨h', tk, i, m', rfl, hi, rfl, hit, F', hn', N'⟩
      have hls : h'.IsList ax its := S₀.list F'.keep (fun p hp => N' p (List.mem_cons_of_mem _ hp))
      by_cases hlt : i < its.size
      · refine wpAny_pyNext_list_item hit hls (x := its[i]) (by simp [hlt]) fun h₂ hit₂ hk₂ => ?_
        refine wpAny_assign_Name (wpAny_storeName_local (lookup_relabel_local hx) (hn'.sameBut hk₂ (Ne.symm hIC)) (fun h₃ hn₃ hs₃ => ?_) (by simp [compEnvC, relabel, hkind]))
        obtain ⟨oI, heI2, hcI⟩ := hit₂
        have heI : h₃.get? I = some oI := hs₃.extBut _ _ hIC heI2
        obtain ⟨oC, heC, hoC⟩ := ns_obj hn₃
        have F₃ : Fr h₀ L h₃ m := (F'.change hk₂ hIL hI₀).change hs₃ hCL hC₀
        have N₃ : News h₀ L h₃ ((I, oI) :: (C, oC) :: (D, lst []) :: news) := fun p hp => by
          rcases List.mem_cons.mp hp with rfl | hp
          · exact ⟨heI, hIL, hI₀⟩
          · rcases List.mem_cons.mp hp with rfl | hp
            · exact ⟨heC, hCL, hC₀⟩
            · have z := N' p hp
              refine ⟨hs₃.extBut _ _ ?_ (hk₂.extBut _ _ ?_ z.1), z.2⟩
              · rcases List.mem_cons.mp hp with rfl | hp
                · exact hDC
                · exact (off p hp).2.1
              · rcases List.mem_cons.mp hp with rfl | hp
                · exact Ne.symm hID
                · exact (off p hp).1
        refine G_mono (step i its[i] I oI C oC D _ h₃ _ (by simp [hlt]) hoC (by simp) F₃ N₃) fun ok s₄ h₄ => ?_
        obtain ⟨e, h₄, tk₄, rfl, F₄, N₄⟩ := h₄
        have zC := (N₄ (C, oC) (List.mem_cons_of_mem _ List.mem_cons_self)).1
        exact ⟨e, its.size + 1 - (i + 1), by omega, h₄, tk₄, i + 1, _, rfl, hlt, rfl, ⟨oI, (N₄ (I, oI) List.mem_cons_self).1, hcI⟩, F₄, hoC.ns zC, fun p hp => N₄ p (List.mem_cons_of_mem _ (List.mem_cons_of_mem _ hp))⟩
      · obtain rfl : i = its.size := by omega
        refine wpAny_pyNext_list_end hh hit hls (by simp) fun h₂ hk₂ => ?_
        refine ⟨m', hn'.extBut hk₂ (Ne.symm hIC), fun h'' hs'' => ?_⟩
        have F₂ : Fr h₀ L h₂ m := ⟨F'.ns.at' fun o e => hk₂ _ o (Ne.symm hIL) e, fun b o e => hk₂ b o (fun q => by rw [q, hI₀] at e; cases e) (F'.keep b o e), F'.above⟩
        refine done D h'' tk (F₂.change hs'' hCL hC₀) fun p hp => ?_
        have z := N' p hp
        refine ⟨hs''.extBut _ _ ?_ (hk₂ _ _ ?_ z.1), z.2⟩
        · rcases List.mem_cons.mp hp with rfl | hp
          · exact hDC
          · exact (off p hp).2.1
        · rcases List.mem_cons.mp hp with rfl | hp
          · exact Ne.symm hID
          · exact (off p hp).1
    · rcases List.mem_cons.mp hp with rfl | hp
      · exact ⟨hacc, hDL, hD₀⟩
      · exact ⟨old _ _ (N1 p hp).1, (N1 p hp).2⟩
  refine codeG_compStart (loop _ ⟨_, rfl⟩) (wpAny_pyIter_listiter (l := ax) (i := 0) ⟨_, old _ _ hI1.choose_spec.1, hI1.choose_spec.2⟩ (loop _ ⟨_, rfl⟩))
end
end
section
open _root_.PySem _root_.PySem.W _root_.PyProof.Rows _root_.PySem.Calls
open _root_.PySem.Sem (wp)
set_option maxRecDepth 100000
set_option maxHeartbeats 1000000
abbrev ktrBot (dp un : Nat) (gd : Option (List Code)) (outer : List Env) : Around := { handled := none, depth := dp, frames := some outer, guards := gd, units := un }
section
variable {prog : Program} {w : World} {A : Around} {s : Shared} {K : Frag} {base : Heap} {mg mb : Str → Option Value} {p : Program} {loose : List Str} {mean : ExcName → Option Value}
theorem enter_topCG {outer : List Env} {R : Flow → Shared → Prop} {name qual : Str} {params : Arguments} {body : List Stmt} {scope : Scope} {dV kV doc pm cdv ct oc : Value} {an od : Option Addr} {osl : Array (Option Value)} {f : Addr} {args : Args} {binds : List (Str × Value)}
    (_B : Below A base outer s.heap) (X : K.In s.heap) (T : Top p loose mean mg mb s.heap)
    (ho : K.lookup f = some ⟨oc, od, .func (fnOf name qual params body scope dV kV doc pm an cdv ct), osl⟩) (hcd : codeIn K cdv qual = true) (hroom : A.depth < recursionLimit)
    (hbind : BindsTo s (fnOf name qual params body scope dV kV doc pm an cdv ct) args binds)
    (hkind : (binds.all fun y => scope.names.lookup y.1 == some .local || scope.names.lookup y.1 == some .cell) = true)
    (hnd : ((cellsFrom 0 scope.names []).map (·.1)).Nodup)
    (h : ∀ L' h₁ tk cells, Fr s.heap L' h₁ (bindL (envOfC qual scope L' f cdv).kindOf binds fun _ => none) → News s.heap L' h₁ cells →
      CellsAre (bindC (envOfC qual scope L' f cdv).kindOf binds fun _ => none) (cellsFrom (L' + 1) scope.names []) cells →
      wpG (model prog w) (A.deeper (envOfC qual scope L' f cdv)) (execs body (envOfC qual scope L' f cdv))
        (fun fl s' => R (.ret (match fl with | .ret v => v | _ => .none)) s')
        { s with heap := h₁, toks := tk })
    (hco : scope.isCoroutine = false) (hgen : scope.isGenerator = false) (hk : scope.kind = .function) : codeG (model prog w) A (.call (.ref f) args) R s := by
  have hlim := T.nolimit
  obtain ⟨c, oc', vs, tq, hc, hoc, hdc, hq⟩ := codeRec_of X hcd
  refine codeG_tree rfl (G_of ?_)
  show wpAny _ A.in1 (callAny (.ref f) args) _ _ s
  simp only [callAny]
  refine wpAny_bind (wpAny_load (X _ _ ho) ?_)
  subst hc
  simp only [fnOf, callFunction, hco, hgen]
  refine wpAny_bind (m := field (.ref c) 1) (wpAny_field hoc hdc hq (wpAny_bind (wpAny_pure ?_)))
  refine wpAny_bind (hbind _ _ _ _ (wpAny_bind (wpAny_newFunctionEnv_cells hk (kindsX hkind _) fun env' he s' x => ?_)))
  subst he
  refine wpAny_bind (wpAny_enterFrame (hlim.keeps x.toInCall.keep) hroom (wpAny_pure (And.intro rfl (codeG_func ?_))))
  obtain ⟨h₁, tk, rfl, _⟩ := x.done
  have hk₁ := x.toInCall.keep
  obtain ⟨cells, NC, Y⟩ := Cl.news (h₀ := s.heap) (Nat.le_refl _) fun n c hm => ⟨x.cell n c (lookup_of_mem_nodup (cellsFrom_names scope.names 0 (s.heap.objs.size + 1) [] [] rfl ▸ hnd) hm), x.above n c hm⟩
  exact h s.heap.objs.size h₁ tk cells ⟨x.toInCall.ns, hk₁, Nat.le_refl _⟩ NC Y
end
theorem news_addL {h₀ h h' : Heap} {L : Addr} {m : Str → Option Value} {news T : List (Addr × Obj)} (F : Fr h₀ L h m) (N : News h₀ L h news) (hk : Ext h h') (hT : ∀ p ∈ T, h.get? p.1 = none ∧ h'.get? p.1 = some p.2) : News h₀ L h' (news ++ T) := by
  intro p hp
  rcases List.mem_append.mp hp with hp | hp
  · exact ⟨hk _ _ (N p hp).1, (N p hp).2⟩
  · have := news_add F N hk (hT p hp).1 (hT p hp).2
    exact this p (List.mem_cons_self ..)
section
variable {M : Model} {A : Around} {s : Shared} {env : Env}
theorem G_isTrue_not {x : Expr} {pos : Pos} {whole : Sem Value} {Q : Bool → Shared → Prop} (h : wpG M A (isTrue x env (eval x env)) (fun c s' => Q (!c) s') s) : wpG M A (isTrue (.UnaryOp .Not x pos) env whole) Q s := by
  show wpG M A (do return !(← isTrue x env (eval x env))) Q s
  exact G_bind (G_mono h fun c s' h' => G_pure h')
theorem G_isTrue_plain {e : Expr} {whole : Sem Value} {Q : Bool → Shared → Prop} (h : wpG M A whole (fun v s₁ => wpAny M A (truthy v) (fun b s₂ => Stop (Q b s₂)) nev s₁) s)
    (he : isTrue e env whole = (do let v ← whole; standAt e.pos; holding [v] (truthy v)) := by rfl) : wpG M A (isTrue e env whole) Q s := by
  rw [he]
  exact G_bind (G_mono h fun v s₁ h₁ => G_of (wpAny_bind (wpAny_standAt (wpAny_holding h₁))))
end
theorem fresh_off {h₀ h h' : Heap} {L c : Addr} {o : Obj} {news T : List (Addr × Obj)} (N : News h₀ L h news) (hm : (c, o) ∈ news) (hT : ∀ p ∈ T, h.get? p.1 = none ∧ h'.get? p.1 = some p.2) : ∀ p ∈ T, p.1 ≠ c := by
  intro p hp e
  have h1 := (hT p hp).1
  rw [e, (N _ hm).1] at h1
  cases h1
end
section
open _root_.PySem _root_.PyProof.Rows
theorem sum_le {l : List Str} {a : Nat} (h : ∀ c ∈ l, c.length ≤ a) : (l.map (·.length)).sum ≤ l.length * a := by
  induction l with
  | nil => simp
  | cons c r ih =>
    have h1 := ih fun c hc => h c (List.mem_cons_of_mem _ hc)
    have h2 := h c (List.mem_cons_self ..)
    simp only [List.map_cons, List.sum_cons, List.length_cons, Nat.succ_mul]
    omega
theorem join_few {sep : Str} {l : List Str} {a : Nat} (h : ∀ c ∈ l, c.length ≤ a) (hl : l.length * a + l.length * sep.length ≤ 100000) : JoinOk sep l = true := by
  refine joinOk_of ?_
  have := sum_le h
  omega
theorem join_len {sep : Str} {l : List Str} {a : Nat} (h : ∀ c ∈ l, c.length ≤ a) : (Txt.join sep l).length ≤ l.length * a + l.length * sep.length := by
  have h1 := StrLaws.join_length_le sep l
  have h2 := sum_le h
  have e : Txt.join sep l = Str.join sep l := StrLaws.glued_eq_join ..
  rw [e]
  omega
end
section
open _root_.PySem _root_.PySem.W _root_.PyProof.Rows
set_option maxRecDepth 100000
set_option maxHeartbeats 400000
theorem split_last (cs : List Nat) (h : ∀ c ∈ cs, 97 ≤ c ∧ c ≤ 106) (hne : cs ≠ []) : Txt.split (S (pth cs)) (Str.ofString "/") = S [] :: cs.map fun c => S [c] := by
  rw [slash_is, pth_jn0 cs hne, split_jn 47 _ (by simp)]
  · simp
  · intro p hp
    rcases List.mem_cons.mp hp with rfl | hp
    · simp
    · obtain ⟨c, hc, rfl⟩ := List.mem_map.mp hp
      have := h c hc
      simp; omega
/-- the signs of a path's last part -/
noncomputable def nameOf (j : Nat) : List Nat := if j = 0 then [] else [96 + j]
theorem row_split {rs : List Row} (T : TreeOk rs) {j : Nat} {r : Row} (hr : rs[j]? = some r) : ∃ l : List Str, Txt.split (S r.p) (Str.ofString "/") = l ++ [S (nameOf j)] ∧ l.length ≤ 12 := by
  by_cases h0 : 0 < j
  · obtain ⟨cs, h1, h2, h3, _⟩ := row_letters T hr h0
    have hj := row_lt T hr
    refine ⟨S [] :: cs.map fun c => S [c], ?_, by simp; omega⟩
    rw [h3, split_last _ _ (by simp)]
    · unfold nameOf; rw [if_neg (by omega)]; simp
    · intro c hc
      rcases List.mem_append.mp hc with hc | hc
      · exact h1 c hc
      · have := List.mem_singleton.mp hc; omega
  · have : j = 0 := by omega
    subst this
    rw [T.root] at hr
    cases hr
    refine ⟨[S []], ?_, by simp⟩
    have : ([47] : List Nat) = jn 47 [[], []] := rfl
    show Txt.split (S [47]) _ = _
    rw [this, slash_is, split_jn 47 _ (by simp) (by simp)]
    rfl
/-- the folder above, by dirname's own words -/
theorem row_above {rs : List Row} (T : TreeOk rs) {j : Nat} {r u : Row} (hr : rs[j]? = some r) (h0 : 0 < j) (hu : rs[r.a]? = some u) : ∃ a, r.p = a ++ 47 :: [96 + j] ∧ (∀ z, a.getLast? = some z → z ≠ 47) ∧ u.p = (if a = [] then [47] else a) ∧ u.p.length ≤ 40 := by
  obtain ⟨cs, h1, h2, h3, ⟨u', hu', hup⟩, _⟩ := row_letters T hr h0
  rw [hu] at hu'
  cases hu'
  have hul := (row_len T hu).1
  refine ⟨pth cs, by rw [h3, pth_snoc], ?_, ?_, hul⟩
  · intro z hz
    have := List.mem_of_getLast? hz
    by_cases hne : cs = []
    · subst hne; simp [pth] at hz
    · have e : cs = cs.dropLast ++ [cs.getLast hne] := (List.dropLast_concat_getLast hne).symm
      rw [e, pth_snoc, show pth cs.dropLast ++ [47, cs.getLast hne] = (pth cs.dropLast ++ [47]) ++ [cs.getLast hne] by simp] at hz
      simp at hz
      have := h1 _ (List.getLast_mem hne)
      omega
  · rw [hup]
    by_cases hne : cs = []
    · subst hne; rfl
    · rw [if_neg hne, if_neg]
      intro e
      have := congrArg List.length e
      rw [pth_len] at this
      have : cs.length = 0 := by simp at this; omega
      exact hne (List.eq_nil_of_length_eq_zero this)
end
section
open _root_.PySem _root_.PySem.W _root_.PyProof.Rows
set_option maxRecDepth 100000
set_option maxHeartbeats 400000
noncomputable def baseOf (k : Nat) : Int := if k = 0 then 16384 else if k = 1 then 32768 else 40960
noncomputable def letter (k : Nat) : Nat := if k = 0 then 100 else if k = 1 then 45 else 108
noncomputable def sg (b : Int) (p : Int) (c : UInt8) : UInt8 := if (b.fdiv p).fmod 2 = 1 then c else 45
noncomputable def sgs (b : Int) : List UInt8 := [sg b 256 114, sg b 128 119, sg b 64 120, sg b 32 114, sg b 16 119, sg b 8 120, sg b 4 114, sg b 2 119, sg b 1 120]
noncomputable def turnB (b : Int) : Int := b.fmod 8 * 64 + (b.fdiv 8).fmod 8 * 8 + b.fdiv 64
/-- a bit asked by a mask is the bit asked by a division -/
noncomputable def hasB (b : Int) (p : Int) : Bool := (b.fdiv p).fmod 2 == 1
noncomputable def askB (x : Int) (m : Int) : Bool := Builtin.bitAnd x m == m
theorem bits_all : ∀ b : Fin 512, ∀ k : Fin 3, Builtin.bitAnd (baseOf k + (b.val : Int)) 4095 = (b.val : Int) ∧ Builtin.bitAnd (baseOf k + (b.val : Int)) 61440 = baseOf k := by decide +kernel
theorem asks_all : ∀ b : Fin 512, ∀ k : Fin 3, ([256, 128, 64, 32, 16, 8, 4, 2, 1].map fun p => askB (baseOf k + (b.val : Int)) p) = ([256, 128, 64, 32, 16, 8, 4, 2, 1].map fun p => hasB (b.val : Int) p) := by decide +kernel
theorem none_all : ∀ b : Fin 512, ∀ k : Fin 3, ([2112, 2048, 1032, 1024, 513, 512].map fun p => askB (baseOf k + (b.val : Int)) p) = [false, false, false, false, false, false] := by decide +kernel
theorem turns_all : ∀ b : Fin 512, 0 ≤ turnB (b.val : Int) ∧ turnB (b.val : Int) < 512 ∧ ([256, 128, 64, 32, 16, 8, 4, 2, 1].map fun p => hasB (turnB (b.val : Int)) p) = ([4, 2, 1, 32, 16, 8, 256, 128, 64].map fun p => hasB (b.val : Int) p) := by decide +kernel
theorem sg_has (b p : Int) (c : UInt8) : sg b p c = if hasB b p = true then c else 45 := by
  unfold sg hasB
  by_cases h : (b.fdiv p).fmod 2 = 1
  · rw [if_pos h, if_pos (by simp [h])]
  · rw [if_neg h, if_neg (by simp [h])]
theorem turn_all : ∀ b : Fin 512, 0 ≤ turnB (b.val : Int) ∧ turnB (b.val : Int) < 512 ∧ sgs (turnB (b.val : Int)) = (match sgs (b.val : Int) with | [b0, b1, b2, b3, b4, b5, b6, b7, b8] => [b6, b7, b8, b3, b4, b5, b0, b1, b2] | l => l) := by
  intro b
  obtain ⟨h1, h2, h3⟩ := turns_all b
  refine ⟨h1, h2, ?_⟩
  simp only [List.map_cons, List.map_nil, List.cons.injEq, and_true] at h3
  obtain ⟨e1, e2, e3, e4, e5, e6, e7, e8, e9⟩ := h3
  unfold sgs
  simp only [sg_has, e1, e2, e3, e4, e5, e6, e7, e8, e9]
theorem join_ones : ∀ l : List Nat, Str.join (S []) (l.map fun n => S [n]) = S l
  | [] => rfl
  | [x] => rfl
  | x :: y :: r => by
    show S [x] ++ S [] ++ Str.join (S []) ((y :: r).map fun n => S [n]) = _
    rw [join_ones (y :: r), S_append, S_append]
    rfl
theorem empty_is : Str.ofString "" = S [] := by decide +kernel
theorem dash_is : Str.ofString "-" = S [45] := by decide +kernel
theorem txt_ones (l : List Nat) : Txt.join (Str.ofString "") (l.map fun n => S [n]) = S l := by
  rw [show Txt.join (Str.ofString "") (l.map fun n => S [n]) = Str.join (Str.ofString "") _ from StrLaws.glued_eq_join .., empty_is]
  exact join_ones l
theorem one_of (c : Bool) (x : Str) (n : UInt8) (hx : x = S [n.toNat]) : (if c = true then x else Str.ofString "-") = S [(if c = true then n else 45).toNat] := by
  cases c
  · exact dash_is
  · exact hx
end
section
open _root_.PySem _root_.PySem.W _root_.PyProof.Rows
set_option maxRecDepth 100000
set_option maxHeartbeats 400000
noncomputable def letterI (k : Int) : Nat := if k = 0 then 100 else if k = 1 then 45 else 108
/-- the exchanged text of a row -/
noncomputable def xtext (r : Row) : Str := S (letterI r.k :: (sgs (turnB r.b)).map (·.toNat))
noncomputable def tabD (rs : List Row) : List (PyData × PyData) := rs.map fun r => (PyData.str (S r.p), PyData.str (xtext r))
theorem look_in : ∀ (l : List Row) (r : Row) (j : Nat), l[j]? = some r → (∀ (i : Nat) (q : Row), l[i]? = some q → q.p = r.p → i = j) → PySem.Spec.lookup (.str (S r.p)) (tabD l) = some (.str (xtext r))
  | [], _, _, h, _ => by simp at h
  | q :: l, r, 0, h, _ => by
    cases h
    show (if PySem.Spec.same (.str (S q.p)) (.str (S q.p)) = true then _ else _) = _
    rw [if_pos (by simp [PySem.Spec.same])]
  | q :: l, r, j + 1, h, hu => by
    show (if PySem.Spec.same (.str (S q.p)) (.str (S r.p)) = true then _ else PySem.Spec.lookup _ (tabD l)) = _
    rw [if_neg]
    · exact look_in l r j (by simpa using h) fun i q' hi hp => by
        have := hu (i + 1) q' (by simpa using hi) hp
        omega
    · intro e
      have e' : S q.p = S r.p := by simpa [PySem.Spec.same] using e
      have := hu 0 q rfl (S_inj.mp e')
      omega
theorem tab_at {rs : List Row} (T : TreeOk rs) {j : Nat} {r : Row} (hr : rs[j]? = some r) : PySem.Spec.lookup (.str (S r.p)) (tabD rs) = some (.str (xtext r)) :=
  look_in rs r j hr fun i q hi hp => row_inj T hi hr hp
theorem xtext_len (r : Row) : (xtext r).length = 10 := by unfold xtext; rw [S_len]; rfl
noncomputable def c3 (r : Row) : Str := if (r.b.fmod 2 == 1) = true then S [120] else S [45]
theorem xtext_at {r : Row} (hb : 0 ≤ r.b ∧ r.b < 512) : Txt.item (xtext r) 3 = c3 r := by
  obtain ⟨p, k, b, a⟩ := r
  dsimp only at hb
  obtain ⟨n, rfl⟩ := Int.eq_ofNat_of_zero_le hb.1
  have h := (turns_all ⟨n, by omega⟩).2.2
  simp only [List.map_cons, List.map_nil, List.cons.injEq, and_true] at h
  have h3 : hasB (turnB (n : Int)) 64 = hasB (n : Int) 1 := h.2.2.1
  have h4 : hasB (n : Int) 1 = ((n : Int).fmod 2 == 1) := by unfold hasB; rw [Int.fdiv_one]
  have e : Txt.item (xtext ⟨p, k, (n : Int), a⟩) 3 = S [(sg (turnB (n : Int)) 64 120).toNat] := rfl
  rw [e, sg_has, h3, h4]
  show _ = if ((n : Int).fmod 2 == 1) = true then _ else _
  cases ((n : Int).fmod 2 == 1) <;> rfl
theorem row_ne {rs : List Row} (T : TreeOk rs) {j : Nat} {r : Row} (hr : rs[j]? = some r) (h0 : 0 < j) : (S r.p != Str.ofString "/") = true := by
  rw [slash_is]
  simp only [bne_iff_ne, ne_eq, S_inj]
  intro e
  have := (row_root T hr).mp e
  omega
noncomputable def askd (rs : List Row) (j : Nat) : List Str := (chain rs j).map fun i => match rs[i]? with | some r => c3 r | none => S [45]
theorem askd_up {rs : List Row} (T : TreeOk rs) {j : Nat} {r u : Row} (hr : rs[j]? = some r) (h0 : 0 < j) (hu : rs[r.a]? = some u) : askd rs j = c3 u :: askd rs r.a := by
  unfold askd
  rw [chain_up T hr h0, List.map_cons, hu]
theorem askd_len {rs : List Row} (T : TreeOk rs) (j : Nat) : (askd rs j).length ≤ j := by
  unfold askd; rw [List.length_map]; exact chain_len T j j (Nat.le_refl _)
theorem askd_open (rs : List Row) (j : Nat) : (askd rs j).all (fun c => c == Str.ofString "x") = openUp rs j := by
  unfold askd openUp
  rw [List.all_map]
  congr 1
  funext i
  show ((match rs[i]? with | some r => c3 r | none => S [45]) == Str.ofString "x") = opn rs i
  unfold opn
  cases rs[i]? with
  | none => decide +kernel
  | some r =>
    show (c3 r == Str.ofString "x") = (r.b.fmod 2 == 1)
    unfold c3
    cases (r.b.fmod 2 == 1) <;> decide +kernel
theorem thr_len {rs : List Row} (T : TreeOk rs) {l : List (Str × Tok)} {n j : Nat} (hb : l.map (·.1) ++ askd rs n = askd rs j) (hj : j < rs.length) : (strValues l).toArray.size ≤ 20 ∧ l.length ≤ 20 := by
  have h1 := congrArg List.length hb
  rw [List.length_append, List.length_map] at h1
  have h2 := askd_len T j
  have h3 := T.few
  unfold strValues
  rw [List.size_toArray, List.length_map]
  omega
end
section
open _root_.PySem _root_.PySem.W _root_.PyProof.Rows
set_option maxRecDepth 100000
set_option maxHeartbeats 400000
theorem ints_at : ∀ {vs : List Value} {ns : List Int}, IntsAre vs ns → ∀ i, i < ns.length → ∃ x t, vs[i]? = some (.int x t)
  | _, _, .nil, i, h => by simp at h
  | _, _, .cons n t r, 0, _ => ⟨n, t, rfl⟩
  | _, _, .cons n t r, i + 1, h => by
    obtain ⟨x, t', e⟩ := ints_at r i (by simpa using h)
    exact ⟨x, t', by simpa using e⟩
theorem tree_root : TreeOk [⟨[47], 0, 501, 0⟩] where
  root := rfl
  few := by decide
  kind := by
    intro j r hr
    match j, hr with
    | 0, hr => cases hr; decide
    | j + 1, hr => simp at hr
  bits := by
    intro j r hr
    match j, hr with
    | 0, hr => cases hr; decide
    | j + 1, hr => simp at hr
  up := by
    intro j r hr h0
    match j, hr with
    | 0, hr => omega
    | j + 1, hr => simp at hr
theorem tree_snoc {rs : List Row} (T : TreeOk rs) (hl : rs.length ≤ 10) {k b : Int} {a : Nat} {u : Row} (hk : 0 ≤ k ∧ k < 3) (hb : 0 ≤ b ∧ b < 512) (hu : rs[a]? = some u) :
    TreeOk (rs ++ [⟨(if a = 0 then [] else u.p) ++ [47, 96 + rs.length], k, b, a⟩]) := by
  have ha : a < rs.length := (row_lt T hu).1
  have old : ∀ (j : Nat) (r : Row), (rs ++ [(⟨(if a = 0 then [] else u.p) ++ [47, 96 + rs.length], k, b, a⟩ : Row)])[j]? = some r → rs[j]? = some r ∨ (j = rs.length ∧ r = ⟨(if a = 0 then [] else u.p) ++ [47, 96 + rs.length], k, b, a⟩) := by
    intro j r hr
    by_cases h : j < rs.length
    · rw [List.getElem?_append_left h] at hr; exact .inl hr
    · rw [List.getElem?_append_right (by omega)] at hr
      have : j - rs.length = 0 := by
        by_cases h2 : j - rs.length = 0
        · exact h2
        · rw [List.getElem?_eq_none (by simp; omega)] at hr; cases hr
      rw [this] at hr
      cases hr
      exact .inr ⟨by omega, rfl⟩
  have new : ∀ (j : Nat) (r : Row), rs[j]? = some r → (rs ++ [(⟨(if a = 0 then [] else u.p) ++ [47, 96 + rs.length], k, b, a⟩ : Row)])[j]? = some r := by
    intro j r hr
    rw [List.getElem?_append_left (row_lt T hr).1]; exact hr
  refine ⟨new _ _ T.root, by rw [List.length_append, List.length_singleton]; omega, ?_, ?_, ?_⟩
  · intro j r hr
    rcases old j r hr with h | ⟨_, rfl⟩
    · exact T.kind j r h
    · exact hk
  · intro j r hr
    rcases old j r hr with h | ⟨_, rfl⟩
    · exact T.bits j r h
    · exact hb
  · intro j r hr h0
    rcases old j r hr with h | ⟨rfl, rfl⟩
    · obtain ⟨h1, v, h2, h3⟩ := T.up j r h h0
      exact ⟨h1, v, new _ _ h2, h3⟩
    · exact ⟨ha, u, new _ _ hu, rfl⟩
/-- the rows as a ledger bears them -/
noncomputable def RowObjs (rows : List (Addr × Obj)) (as : List Addr) (rs : List Row) : Prop :=
  as.length = rs.length ∧ ∀ (j : Nat) (a : Addr) (r : Row), as[j]? = some a → rs[j]? = some r → ∃ t1 t2 t3 t4 e, (a, W.listOf #[.str (S r.p) t1, .int r.k t2, .int r.b t3, .int (r.a : Int) t4] e) ∈ rows
theorem rows_root {a : Addr} {t1 t2 t3 t4 : Tok} {e : Nat} : RowObjs [(a, W.listOf #[.str (Str.ofString "/") t1, .int 0 t2, .int 501 t3, .int 0 t4] e)] [a] [⟨[47], 0, 501, 0⟩] := by
  refine ⟨rfl, ?_⟩
  intro j b r hb hr
  match j, hb, hr with
  | 0, hb, hr =>
    cases hb; cases hr
    rw [slash_is]
    exact ⟨t1, t2, t3, t4, e, List.mem_cons_self ..⟩
  | j + 1, hb, hr => simp at hb
theorem rows_snoc {rows : List (Addr × Obj)} {as : List Addr} {rs : List Row} (R : RowObjs rows as rs) {a : Addr} {x : Str} {p : List Nat} {k b : Int} {n : Nat} {t1 t2 t3 t4 : Tok} {e : Nat} (hx : x = S p) :
    RowObjs ((a, W.listOf #[.str x t1, .int k t2, .int b t3, .int (n : Int) t4] e) :: rows) (as ++ [a]) (rs ++ [⟨p, k, b, n⟩]) := by
  subst hx
  refine ⟨by simp [R.1], ?_⟩
  intro j c r hc hr
  by_cases h : j < rs.length
  · rw [List.getElem?_append_left (by rw [R.1]; exact h)] at hc
    rw [List.getElem?_append_left h] at hr
    obtain ⟨t1, t2, t3, t4, e, hm⟩ := R.2 j c r hc hr
    exact ⟨t1, t2, t3, t4, e, List.mem_cons_of_mem _ hm⟩
  · rw [List.getElem?_append_right (by omega)] at hr
    rw [List.getElem?_append_right (by rw [R.1]; omega), R.1] at hc
    have : j - rs.length = 0 := by
      by_cases h2 : j - rs.length = 0
      · exact h2
      · rw [List.getElem?_eq_none (by simp; omega)] at hr; cases hr
    rw [this] at hr hc
    cases hr; cases hc
    exact ⟨t1, t2, t3, t4, e, List.mem_cons_self ..⟩
/-- the letters -/
theorem letter_at : ∀ i : Fin 10, Txt.item (Str.ofString "abcdefghij") (i.val : Int) = S [97 + i.val] := by decide +kernel
noncomputable def natsV (fv : List (Nat × Tok)) : List Value := fv.map fun p => Value.int (p.1 : Int) p.2
/-- the word between the turns of the tree's loop -/
noncomputable def Kt (E Fo : Addr) (i : Nat) (news : List (Addr × Obj)) : Prop :=
  ∃ (rows : List (Addr × Obj)) (as : List Addr) (rs : List Row) (fv : List (Nat × Tok)) (e e' : Nat),
    news = (Fo, W.listOf (natsV fv).toArray e') :: (E, W.listOf (as.map Value.ref).toArray e) :: rows ∧ RowObjs rows as rs ∧ TreeOk rs ∧ rs.length = i + 1 ∧
    (∀ p ∈ rows, p.1 ≠ E) ∧ (∀ p ∈ rows, p.1 ≠ Fo) ∧ (∀ p ∈ rows, p.2.cls = .type "list") ∧ fv ≠ [] ∧ fv.length ≤ i + 1 ∧ ∀ p ∈ fv, p.1 < rs.length
theorem kt_step {E Fo R : Addr} {rows : List (Addr × Obj)} {as : List Addr} {rs : List Row} {fv fv' : List (Nat × Tok)} {i a e2 e3 e4 : Nat} {u : Row} {x : Str} {k b : Int} {t1 t2 t3 t4 : Tok} {fo : Array Value}
    (hRo : RowObjs rows as rs) (hT : TreeOk rs) (hl : rs.length = i + 1) (hi : i < 10) (hE : ∀ p ∈ rows, p.1 ≠ E) (hFo : ∀ p ∈ rows, p.1 ≠ Fo) (hcl : ∀ p ∈ rows, p.2.cls = .type "list") (hf0 : fv ≠ []) (hfl : fv.length ≤ i + 1) (hfa : ∀ p ∈ fv, p.1 < rs.length)
    (hk : 0 ≤ k ∧ k < 3) (hb : 0 ≤ b ∧ b < 512) (hu : rs[a]? = some u) (hx : x = S ((if a = 0 then [] else u.p) ++ [47, 96 + rs.length])) (hRE : R ≠ E) (hRF : R ≠ Fo) (hfo : fo = (natsV fv').toArray) (hfv : fv' = fv ∨ ∃ t, fv' = fv ++ [(i + 1, t)]) :
    Kt E Fo (i + 1) ((Fo, W.listOf fo e3) :: (E, W.listOf ((as.map Value.ref).toArray.push (.ref R)) e2) :: (R, W.listOf #[.str x t1, .int k t2, .int b t3, .int (a : Int) t4] e4) :: rows) := by
  refine ⟨_, as ++ [R], rs ++ [⟨(if a = 0 then [] else u.p) ++ [47, 96 + rs.length], k, b, a⟩], fv', e2, e3, by rw [hfo]; simp [List.map_append], rows_snoc (t1 := t1) (t2 := t2) (t3 := t3) (t4 := t4) (e := e4) hRo hx, tree_snoc hT (by omega) hk hb hu, by rw [List.length_append, List.length_singleton]; omega, ?_, ?_, ?_, ?_, ?_, ?_⟩
  · intro p hp
    rcases List.mem_cons.mp hp with rfl | hp
    · exact hRE
    · exact hE p hp
  · intro p hp
    rcases List.mem_cons.mp hp with rfl | hp
    · exact hRF
    · exact hFo p hp
  · intro p hp
    rcases List.mem_cons.mp hp with rfl | hp
    · rfl
    · exact hcl p hp
  · rcases hfv with rfl | ⟨t, rfl⟩
    · exact hf0
    · simp
  · rcases hfv with rfl | ⟨t, rfl⟩
    · omega
    · rw [List.length_append, List.length_singleton]; omega
  · intro p hp
    rw [List.length_append, List.length_singleton]
    rcases hfv with rfl | ⟨t, rfl⟩
    · have := hfa p hp; omega
    · rcases List.mem_append.mp hp with hp | hp
      · have := hfa p hp; omega
      · rw [List.mem_singleton.mp hp]; show i + 1 < _; omega
theorem path_sub {rs : List Row} {i a : Nat} {u : Row} (hl : rs.length = i + 1) (hi : i < 10) (ha : 0 < a) : S u.p ++ Str.ofString "/" ++ Txt.item (Str.ofString "abcdefghij") (i : Int) = S ((if a = 0 then [] else u.p) ++ [47, 96 + rs.length]) := by
  rw [letter_at ⟨i, hi⟩, slash_is, S_append, S_append, if_neg (by omega), hl, List.append_assoc, show 96 + (i + 1) = 97 + i by omega]
  rfl
theorem path_top {rs : List Row} {i : Nat} {u : Row} (hl : rs.length = i + 1) (hi : i < 10) : Str.ofString "/" ++ Txt.item (Str.ofString "abcdefghij") (i : Int) = S ((if (0 : Nat) = 0 then [] else u.p) ++ [47, 96 + rs.length]) := by
  rw [letter_at ⟨i, hi⟩, slash_is, S_append, if_pos rfl, hl, show 96 + (i + 1) = 97 + i by omega]
  rfl
theorem mod_room (x m : Int) (hm : 0 < m) : 0 ≤ x.fmod m ∧ x.fmod m < m := ⟨Int.fmod_nonneg_of_pos x hm, Int.fmod_lt_of_pos x hm⟩
/-- the iterator is none of the tree's lists -/
theorem off_it {h : Heap} {I : Addr} {it : Obj} {rows : List (Addr × Obj)} (N : ∀ p ∈ (I, it) :: rows, h.get? p.1 = some p.2) (hit : it.cls ≠ .type "list") (hcl : ∀ p ∈ rows, p.2.cls = .type "list") : ∀ p ∈ rows, ∀ q ∈ [(I, it)], p.1 ≠ q.1 := by
  intro p hp q hq e
  obtain rfl := List.mem_singleton.mp hq
  have h1 := N p (List.mem_cons_of_mem _ hp)
  have h2 := N (I, it) (List.mem_cons_self ..)
  rw [e, h2] at h1
  have := Option.some.inj h1
  dsimp only at this
  exact hit (this ▸ hcl p hp)
theorem tree_turn {h₀ h : Heap} {L I E Fo R : Addr} {it oR : Obj} {rows : List (Addr × Obj)} {as : List Addr} {i e2 e3 tk : Nat} {fo : Array Value} {names : List Str} {m' m₀ : Str → Option Value} {s₁ : Shared}
    (F : Fr h₀ L h m') (N : News h₀ L h ((R, oR) :: (I, it) :: (Fo, W.listOf fo e3) :: (E, W.listOf ((as.map Value.ref).toArray.push (.ref R)) e2) :: rows)) (hit : it.cls = .type "range_iterator") (hR : oR.cls = .type "list") (hcl : ∀ p ∈ rows, p.2.cls = .type "list")
    (nm : ∀ z, z ∉ names → m' z = m₀ z) (K : Kt E Fo (i + 1) ((Fo, W.listOf fo e3) :: (E, W.listOf ((as.map Value.ref).toArray.push (.ref R)) e2) :: (R, oR) :: rows)) :
    UnrEndW h₀ L s₁ [(I, it)] (fun m' n' => SubL [] n' ∧ TurnOk names m₀ (Kt E Fo (i + 1)) m' n') { s₁ with heap := h, toks := tk } := by
  have N' : News h₀ L h ([(I, it)] ++ (Fo, W.listOf fo e3) :: (E, W.listOf ((as.map Value.ref).toArray.push (.ref R)) e2) :: (R, oR) :: rows) := news_sub N (by
    intro p hp
    simp only [List.mem_append, List.mem_cons, List.not_mem_nil, or_false] at hp ⊢
    rcases hp with rfl | rfl | rfl | rfl | hp
    · simp
    · simp
    · simp
    · simp
    · simp [hp])
  refine ⟨h, tk, m', _, rfl, F, N', off_it (h := h) (fun p hp => (N' p hp).1) (by rw [hit]; decide) ?_, trivial, TurnOk.intro nm K⟩
  intro p hp
  rcases List.mem_cons.mp hp with rfl | hp
  · rfl
  · rcases List.mem_cons.mp hp with rfl | hp
    · rfl
    · rcases List.mem_cons.mp hp with rfl | hp
      · exact hR
      · exact hcl p hp
end
section
open _root_.PySem _root_.PySem.W _root_.PyProof.Rows _root_.PySem.Calls
set_option maxRecDepth 100000
set_option maxHeartbeats 1000000
section
variable {prog : Program} {w : World} {A : Around} {E : Value → Shared → Prop} {s : Shared}
theorem nextOf_tup_item {it t : Addr} {i : Nat} {items : Array Value} {x : Value} {Q : Value → Shared → Prop} (hit : s.heap.IsTupleIter it t i)
    (ht : s.heap.IsTuple t items) (hx : items[i]? = some x)
    (hQ : ∀ h', h'.IsTupleIter it t (i + 1) → Heap.SameBut it s.heap h' → Q x { s with heap := h' }) :
    wpAny (model prog w) A (Builtin.SmallTypes.nextOf (.ref it)) Q E s := by
  obtain ⟨o, ho, hc, hd⟩ := id hit
  obtain ⟨ol, hol, _, nl, hdl⟩ := ht
  unfold Builtin.SmallTypes.nextOf
  refine wpAny_bind (wpAny_callSpecial?_slot (name := Str.ofString "__next__") hit.typeIs F.slot_tuple_iterator_next
    (wpAny_call_entry F.slot_tuple_iterator_next hit.typeIs F.entry_tuple_iterator_next ?_ (F.args_tuple_iterator_next_1 _)))
  show wpAny _ _ (field (.ref it) 0 >>= _) _ _ s
  refine wpAny_bind (wpAny_field ho hd (x := .ref t) rfl ?_)
  show wpAny _ _ (if (Value.ref t == Value.none) = true then _ else _) _ _ s
  rw [if_neg (show ¬ ((Value.ref t == Value.none) = true) from Bool.false_ne_true)]
  show wpAny _ _ (field (.ref it) 1 >>= _) _ _ s
  refine wpAny_bind (wpAny_field ho hd (x := .int i 0) rfl ?_)
  show wpAny _ _ (seqItems? (.ref t) >>= _) _ _ s
  refine wpAny_bind (wpAny_seqItems hol hdl ?_)
  simp only [Int.toNat_natCast, hx]
  refine wpAny_bind (wpAny_setField ho hd (by simp) (wpAny_pure ⟨x, rfl, wpAny_pure (hQ _ ?_ (Heap.SameBut.update ..))⟩))
  exact ⟨_, Heap.get?_update_self _ ho (Obj.isFreed_of_fields (Obj.data_mapFields hd _)), (Obj.cls_mapFields ..).trans hc, by
    rw [Obj.data_mapFields hd]; simp [rawInt]⟩
theorem nextOf_tup_end {it t : Addr} {i : Nat} {items : Array Value} {Q : Value → Shared → Prop} (hh : A.handled = none)
    (hit : s.heap.IsTupleIter it t i) (hl : s.heap.IsTuple t items) (hx : items[i]? = none)
    (hE : ∀ h' e, Heap.ExtBut it s.heap h' → (∃ o, h'.get? e = some o ∧ o.cls = .type "StopIteration") → E (.ref e) { s with heap := h' }) :
    wpAny (model prog w) A (Builtin.SmallTypes.nextOf (.ref it)) Q E s := by
  obtain ⟨o, ho, hc, hd⟩ := id hit
  obtain ⟨ol, hol, _, nl, hdl⟩ := hl
  unfold Builtin.SmallTypes.nextOf
  refine wpAny_bind (wpAny_callSpecial?_slot (name := Str.ofString "__next__") hit.typeIs F.slot_tuple_iterator_next
    (wpAny_call_entry F.slot_tuple_iterator_next hit.typeIs F.entry_tuple_iterator_next ?_ (F.args_tuple_iterator_next_1 _)))
  show wpAny _ _ (field (.ref it) 0 >>= _) _ _ s
  refine wpAny_bind (wpAny_field ho hd (x := .ref t) rfl ?_)
  show wpAny _ _ (if (Value.ref t == Value.none) = true then _ else _) _ _ s
  rw [if_neg (show ¬ ((Value.ref t == Value.none) = true) from Bool.false_ne_true)]
  show wpAny _ _ (field (.ref it) 1 >>= _) _ _ s
  refine wpAny_bind (wpAny_field ho hd (x := .int i 0) rfl ?_)
  show wpAny _ _ (seqItems? (.ref t) >>= _) _ _ s
  refine wpAny_bind (wpAny_seqItems hol hdl ?_)
  simp only [Int.toNat_natCast, hx]
  refine wpAny_bind (wpAny_rule (wpAny_bind (wpAny_setField ho hd (by simp) ?_)))
  show wpAny _ _ (newExc (.type "StopIteration") [] >>= _) _ _ _
  refine wpAny_bind ?_
  simp only [newExc, newTuple]
  refine wpAny_bind (wpAny_newObj_type ?_ (by size_fits))
  refine wpAny_bind (m := firstArgMember _ _) (wpAny_of_eq (a := Value.none) (by first | rfl | (simp only [firstArgMember]; rfl)) ?_)
  refine wpAny_newObj_type ?_ (by size_fits)
  simp only [raiseNew]
  refine wpAny_bind (wpAny_handled ?_)
  first | rw [show A.in1.handled = none from hh] | rw [hh]
  refine wpAny_bind (wpAny_pure (wpAny_throw ?_))
  exact hE _ _ (((Heap.SameBut.update ..).extBut.push _).push _) ⟨_, Heap.get?_push_size _ rfl, rfl⟩
theorem draws_tup (hh : A.handled = none) (it l : Addr) (hne : l ≠ it) (items : Array Value) :
    Draws prog w A it [it, l] items.size (fun i v => items[i]? = some v) (fun i h => h.IsTupleIter it l i ∧ h.IsTuple l items) where
  live := fun _ _ st => let ⟨o, ho, _⟩ := st.1; ⟨o, ho⟩
  frame := fun _ _ _ st hk => ⟨st.1.at fun o e => hk it (by simp) o e, st.2.at fun o e => hk l (by simp) o e⟩
  item := fun i s Q E hi st hQ => by
    refine nextOf_tup_item st.1 st.2 (x := items[i]) (by simp [hi]) fun h' hit' hs' => ?_
    exact hQ _ h' s.toks (by simp [hi]) ⟨hit', st.2.extBut hs'.extBut hne⟩ hs'
  done := fun s Q E st hE => nextOf_tup_end hh st.1 st.2 (by simp) hE
theorem enum_newT (l : Addr) (items : Array Value) (n : Nat) (dct : Option Addr) (sl : Array (Option Value)) :
    Meets (Builtin.«enumerate.__new__» ⟨[.type "enumerate", .ref l], []⟩) (fun _ R s => s.heap.get? l = some { cls := .type "tuple", dict := dct, data := .seq items n, slots := sl } ∧
      R (.ok (.ret (.ref (s.heap.push { cls := .type "tuple_iterator", data := .fields #[.ref l, .int 0 0] }).objs.size)))
        { s with heap := (s.heap.push { cls := .type "tuple_iterator", data := .fields #[.ref l, .int 0 0] }).push { cls := .type "enumerate", data := .fields #[.none, .bool false, .ref s.heap.objs.size, rawInt 0, .none, .none] } }) :=
  .of_wp fun prog w A R s h => by
    obtain ⟨hp, g, d, tk, os⟩ := s; obtain ⟨hl, h⟩ := h
    have hsub := sub_enumerate
    have hL : Heap.IsTuple (Shared.heap ⟨hp, g, d, tk, os⟩) l items := ⟨_, hl, rfl, n, rfl⟩
    wp_walk using AutoSeq1.wpAny_loadPart' hl
    refine wpAny_stack_any fun st => wpAny_pure ?_
    split
    · rename_i c _ _ _ _ _
      cases (c == Value.type "enumerate")
      · wp_walk using AutoSeq1.wpAny_loadPart' hl, wpAny_pyIter_tuple hL
        exact ⟨_, rfl, h⟩
      · wp_walk using AutoSeq1.wpAny_loadPart' hl, wpAny_pyIter_tuple hL
        exact ⟨_, rfl, h⟩
    · wp_walk using AutoSeq1.wpAny_loadPart' hl, wpAny_pyIter_tuple hL
      exact ⟨_, rfl, h⟩
theorem call_enumT {l : Addr} {items : Array Value} {Q : Value → Shared → Prop} (hL : s.heap.IsTuple l items)
    (h : ∀ h', IsEnum h' (s.heap.objs.size + 1) s.heap.objs.size 0 .none → h'.IsTupleIter s.heap.objs.size l 0 → h'.objs.size = s.heap.objs.size + 2 →
      (∀ b o, s.heap.get? b = some o → h'.get? b = some o) → Q (.ref (s.heap.objs.size + 1)) { s with heap := h' }) :
    wpAny (model prog w) A (call (.type "enumerate") [.ref l]) Q E s := by
  obtain ⟨⟨c, dct, dt, sl⟩, hl, hc, n, hd⟩ := hL
  replace hc : c = .type "tuple" := hc
  replace hd : dt = .seq items n := hd
  subst hc hd
  refine callType_new F.called_enumerate (by decide) (F.typeCall_enumerate_1 _) (F.newCall_enumerate_1 _) (fun obj => F.args_object_init_2 obj _) F.entry_enumerate_new
    (enum_newT l items n dct sl) ⟨hl, ?_⟩
  have hz : (s.heap.push { cls := .type "tuple_iterator", data := .fields #[.ref l, .int 0 0] }).objs.size = s.heap.objs.size + 1 := Heap.size_push ..
  show _ ∧ _
  rw [hz]
  have he : IsEnum ((s.heap.push { cls := .type "tuple_iterator", data := .fields #[.ref l, .int 0 0] }).push
      { cls := .type "enumerate", data := .fields #[.none, .bool false, .ref s.heap.objs.size, rawInt 0, .none, .none] }) (s.heap.objs.size + 1) s.heap.objs.size 0 .none := by
    have := Heap.get?_push_size (s.heap.push { cls := .type "tuple_iterator", data := .fields #[.ref l, .int 0 0] })
      (o := { cls := .type "enumerate", data := .fields #[.none, .bool false, .ref s.heap.objs.size, rawInt 0, .none, .none] }) rfl
    rw [hz] at this; exact this
  refine ⟨⟨_, he, rfl⟩, h _ he ⟨_, Heap.get?_push_of_some _ (Heap.get?_push_size _ rfl), rfl, rfl⟩ (by rw [Heap.size_push, hz]) fun b o x => Heap.get?_push_of_some _ (Heap.get?_push_of_some _ x)⟩
end
section
variable {prog : Program} {w : World} {A : Around} {E : Value → Shared → Prop} {s : Shared} {env : Env} {h₀ : Heap} {body : List Stmt} {Q : Flow → Shared → Prop} {K : Frag}
/-- enumerate over a tuple of the top -/
theorem enum_K {elts : List Expr} {k : Nat} {pos : Pos} {l : Addr} {lo : Obj} {vs : List Value} {xs : List Itm} {n : Nat} {m₀ : Str → Option Value} {news : List (Addr × Obj)}
    (hh : A.handled = none) (F : Fr h₀ env.locals s.heap m₀) (N : News h₀ env.locals s.heap news) (X₀ : K.In h₀) (hk : K.lookup l = some lo) (hc : lo.cls = .type "tuple") (hd : lo.data = .seq vs.toArray n) (hx : enumItems 0 vs = xs)
    (rest₀ : ∀ I : Addr, (∀ p ∈ news, p.1 < I) → ItemsRest prog w A E h₀ env (.Tuple elts k pos) body Q s [(I + 1, "enumerate"), (I, "tuple_iterator")] [] xs m₀ news) :
    wpAny (model prog w) A (call (.type "enumerate") [.ref l]) (fun xv s₁ => wpAny (model prog w) A (pyIter xv) (fun it s₂ => TurnsAt prog w A h₀ env (.Tuple elts k pos) body Q E it s₂) E s₁) E s := by
  subst hx
  have hg : h₀.get? l = some lo := X₀ _ _ hk
  have hax := F.keep _ _ hg
  have hl : s.heap.IsTuple l vs.toArray := ⟨lo, hax, hc, n, hd⟩
  have hlt : l < s.heap.objs.size := Heap.lt_size hax
  have hlt0 : l < h₀.objs.size := Heap.lt_size hg
  have hLs : env.locals < s.heap.objs.size := F.ns.lt
  refine call_enumT hl fun h' hE hI hsz hk => ?_
  refine wpAny_pyIter_enum hE ?_
  refine ktg_core (tk0 := s.toks) (keep := []) (KTurns.ofWalksU (WalksT.enumerateD (draws_tup (A := A.in1) hh s.heap.objs.size l (Nat.ne_of_lt hlt) vs.toArray) (s.heap.objs.size + 1) (Nat.succ_ne_self _) (by
      intro hm
      rcases List.mem_cons.mp hm with e | e
      · exact Nat.succ_ne_self _ e
      · exact (ktu_ne 1 hlt) ((List.mem_singleton.mp e).symm)) (by simp)).toU) (by simp [enumItems_length]) ?_ ?_ ?_ ?_ ?_ ?_ ?_ ?_ (F.keeps hk) (N.grown hk) trivial (rest₀ _ fun p hp => Heap.lt_size (N p hp).1)
  · rintro i v h ⟨T, vals, rfl, ⟨t, x, hx, rfl⟩, hT⟩
    refine ⟨_, enumItems_get vs 0 i (v := x) (by simpa using hx), T, t, rfl, ?_⟩
    show IsTup h T #[.int ((0 + i : Nat) : Int) t, x]
    rw [Nat.zero_add]
    exact hT
  · rintro i h ⟨⟨old, he⟩, ⟨oi, hoi, hic, _⟩, _⟩
    have he' : ∃ oe : Obj, h.get? (s.heap.objs.size + 1) = some oe ∧ oe.cls = .type "enumerate" := ⟨_, he, rfl⟩
    obtain ⟨oe, h1, h2⟩ := he'
    refine ⟨[(s.heap.objs.size + 1, oe), (s.heap.objs.size, oi)], ⟨⟨rfl, h2⟩, ⟨rfl, hic⟩, trivial⟩, fun p hp => ?_⟩
    rcases List.mem_cons.mp hp with rfl | hp
    · exact h1
    · rw [List.mem_singleton.mp hp]; exact hoi
  · intro b hb
    have hb' : b = s.heap.objs.size + 1 ∨ b = s.heap.objs.size := by simpa using hb
    rcases hb' with rfl | rfl
    · exact ⟨by simp, ktu_new F (Nat.le_add_right _ _)⟩
    · exact ⟨by simp, ktu_new F (Nat.le_refl _)⟩
  · intro b hb
    simpa using hb
  · intro b hb
    have hb' : b = s.heap.objs.size + 1 ∨ b = s.heap.objs.size ∨ b = l := by simpa using hb
    rcases hb' with rfl | rfl | rfl
    · exact .inl (by simp)
    · exact .inl (by simp)
    · exact .inr (.inr ⟨lo, hg⟩)
  · intro hI'
    have hb' : env.locals = s.heap.objs.size + 1 ∨ env.locals = s.heap.objs.size ∨ env.locals = l := by simpa using hI'
    rcases hb' with e | e | e
    · exact ktu_ne 1 hLs e
    · exact Nat.ne_of_lt hLs e
    · have := F.above
      rw [e] at this
      exact absurd hlt0 (Nat.not_lt.mpr this)
  · intro p hp hI'
    have hb' : p.1 = s.heap.objs.size + 1 ∨ p.1 = s.heap.objs.size := by simpa using hI'
    have hlp := Heap.lt_size (N p hp).1
    rcases hb' with e | e
    · exact ktu_ne 1 hlp e
    · exact Nat.ne_of_lt hlp e
  · exact ⟨⟨.none, hE⟩, hI, hl.at fun o e => hk l o e⟩
end
end
section
open _root_.PySem _root_.PySem.W _root_.PyProof.Rows _root_.PySem.Calls
set_option maxRecDepth 100000
set_option maxHeartbeats 1000000
section
variable {prog : Program} {w : World} {A : Around} {E : Value → Shared → Prop} {s : Shared} {env : Env} {h₀ : Heap} {target : Expr} {body orelse : List Stmt} {Q : Flow → Shared → Prop} {K : Frag}
/-- a loop with an else: what is asked of its code -/
noncomputable def ElseAt (prog : Program) (w : World) (A : Around) (env : Env) (target : Expr) (body orelse : List Stmt) (Q : Flow → Shared → Prop) (E : Value → Shared → Prop) (it : Value) (s₂ : Shared) : Prop :=
  codeAny (model prog w) A (.forLoop target it body orelse env) (fun r s' => match r with | .ok f => Q f s' | .error e => cameBackBy (model prog w) A env E e s') s₂
theorem For_else {iter : Expr} {pos : Pos}
    (h : wpAny (model prog w) A (eval iter env) (fun xv s₁ => wpAny (model prog w) A (pyIter xv) (fun it s₂ => ElseAt prog w A env target body orelse Q E it s₂) E s₁) E s)
    (hs : ∀ x, foldedSetIterable iter env x = pure x := by intro _; rfl) :
    wpAny (model prog w) A (exec (.For target iter body orelse pos) env) Q E s := wpAny_For h hs
theorem else_tupK (names : List Str) {ax : Addr} {lo : Obj} {vs : List Value} {n : Nat} {m₀ : Str → Option Value} {news₀ : List (Addr × Obj)} (Kn : Nat → List (Addr × Obj) → Prop)
    (hh : A.handled = none) (F : Fr h₀ env.locals s.heap m₀) (N : News h₀ env.locals s.heap news₀) (X₀ : K.In h₀) (hk : K.lookup ax = some lo) (hc : lo.cls = .type "tuple") (hd : lo.data = .seq vs.toArray n)
    (h0 : Kn 0 news₀)
    (step : ∀ (I : Addr), (∀ p ∈ news₀, p.1 < I) → ∀ (i : Nat) (v : Value) (us : Str → Option Value) (news : List (Addr × Obj)), vs[i]? = some v → Kn i news → ∀ h tk (it : Obj), it.cls = .type "tuple_iterator" → Fr h₀ env.locals h (over names us m₀) → News h₀ env.locals h ((I, it) :: news) →
      wpAny (model prog w) A (assign target env v) (fun _ s₂ => wpAny (model prog w) A (execs body env) (UnrPostW h₀ env.locals { s with heap := h, toks := tk } [(I, it)] (fun m' n' => SubL [] n' ∧ TurnOk names m₀ (Kn (i + 1)) m' n') Q) E s₂) E { s with heap := h, toks := tk })
    (done : ∀ us news h tk, Kn vs.length news → Fr h₀ env.locals h (over names us m₀) → News h₀ env.locals h news → wpAny (model prog w) A (execs orelse env) Q E { s with heap := h, toks := tk })
    (hE : PassesOwn (model prog w) A env E := by passes_own) :
    wpAny (model prog w) A (pyIter (.ref ax)) (fun it s₂ => ElseAt prog w A env target body orelse Q E it s₂) E s := by
  have hg : h₀.get? ax = some lo := X₀ _ _ hk
  have hax : s.heap.get? ax = some lo := F.keep _ _ hg
  have hl : s.heap.IsTuple ax vs.toArray := ⟨lo, hax, hc, n, hd⟩
  have hlt : ax < s.heap.objs.size := Heap.lt_size hax
  have hne : ax ≠ s.heap.objs.size := Nat.ne_of_lt hlt
  refine wpAny_pyIter_tuple hl ?_
  have F0 := F
  have hIn : h₀.get? s.heap.objs.size = none := next_is_new F0
  have hIL : env.locals ≠ s.heap.objs.size := Nat.ne_of_lt F0.ns.lt
  have hNew : ∀ p ∈ news₀, p.1 < s.heap.objs.size := fun p hp => Heap.lt_size (N p hp).1
  have W := Walks.tuple (prog := prog) (w := w) (A := A) hh s.heap.objs.size ax hne vs.toArray
  generalize hII : s.heap.objs.size = I at hIn hIL hNew W
  unfold ElseAt
  refine codeAny_forLoop_any
    (fun k s' => ∃ h' tk us news i, s' = { s with heap := h', toks := tk } ∧ (h'.IsTupleIter I ax i ∧ h'.IsTuple ax vs.toArray) ∧ Fr h₀ env.locals h' (over names us m₀) ∧ News h₀ env.locals h' news ∧ (∀ p ∈ news, p.1 ≠ I) ∧ Kn i news ∧ i ≤ vs.length ∧ k = vs.length + 1 - i) ?_ (vs.length + 1)
    (by
      obtain ⟨us, hus⟩ := over_of (names := names) (m := m₀) (m₀ := m₀) fun _ _ => rfl
      refine ⟨_, s.toks, us, news₀, 0, rfl, ⟨⟨_, hII ▸ Heap.get?_push_size _ rfl, rfl, rfl⟩, hl.at fun o e => Heap.get?_push_of_some _ e⟩, ?_, fun p hp => ⟨Heap.get?_push_of_some _ (N p hp).1, (N p hp).2⟩, fun p hp => Nat.ne_of_lt (hNew p hp), h0, Nat.zero_le _, rfl⟩
      rw [← hus]; exact F0.push _)
  rintro k s' ⟨h', tk, us, news, i, rfl, hst, F', N', hnw, hK, hi, rfl⟩
  have next : ∀ h₁ : Heap, (∀ b o, b ∉ [I] → h'.get? b = some o → h₁.get? b = some o) → Fr h₀ env.locals h₁ (over names us m₀) ∧ News h₀ env.locals h₁ news := fun h₁ hk₁ =>
    ⟨⟨F'.ns.at' fun o e => hk₁ _ o (by simpa using hIL) e, fun b o e => hk₁ b o (by
        intro hb
        rw [List.mem_singleton.mp hb, hIn] at e; cases e) (F'.keep b o e), F'.above⟩, fun p hp => ⟨hk₁ _ _ (by simpa using hnw p hp) (N' p hp).1, (N' p hp).2⟩⟩
  by_cases hlt : i < vs.length
  · refine W.item i _ _ _ (by simpa using hlt) hst fun v h₁ tk₁ hP hst₁ hk₁ => ?_
    refine letGo_tupleiter hst₁.1 ?_
    obtain ⟨F₁, N₁⟩ := next h₁ hk₁
    obtain ⟨it, hit, hic, hid⟩ := id hst₁.1
    have N₂ : News h₀ env.locals h₁ ((I, it) :: news) := by
      intro p hp
      rcases List.mem_cons.mp hp with rfl | hp
      · exact ⟨hit, fun e => hIL e.symm, hIn⟩
      · exact N₁ p hp
    have hv : vs[i]? = some v := by simpa using hP
    refine wpAny_mono (step I hNew i v us news hv hK h₁ tk₁ it hic F₁ N₂) (fun _ s₂ h₂ => wpAny_mono (wpAny_passesOwn hE h₂) (fun f s₃ h₃ => ?_) fun _ _ e => e) hE
    have fin : ∀ s₃, UnrEndW h₀ env.locals { s with heap := h₁, toks := tk₁ } [(I, it)] (fun m' n' => SubL [] n' ∧ TurnOk names m₀ (Kn (i + 1)) m' n') s₃ → ∃ m, m < vs.length + 1 - i ∧ ∃ h' tk us news j, s₃ = { s with heap := h', toks := tk } ∧ (h'.IsTupleIter I ax j ∧ h'.IsTuple ax vs.toArray) ∧ Fr h₀ env.locals h' (over names us m₀) ∧ News h₀ env.locals h' news ∧ (∀ p ∈ news, p.1 ≠ I) ∧ Kn j news ∧ j ≤ vs.length ∧ m = vs.length + 1 - j := by
      rintro s₃ ⟨h₃, tk₃, m', news', rfl, F₃, N₃, ha, _, T⟩
      obtain ⟨us', rfl⟩ := T.nm
      refine ⟨vs.length + 1 - (i + 1), by omega, h₃, tk₃, us', news', i + 1, rfl, ⟨?_, hl.at fun o e => ?_⟩, F₃, fun p hp => N₃ p (List.mem_append_right _ hp), fun p hp => ha p hp _ (List.mem_singleton.mpr rfl), T.wd, hlt, rfl⟩
      · exact ⟨it, (N₃ _ (List.mem_append_left _ (List.mem_singleton.mpr rfl))).1, hic, hid⟩
      · rw [hax] at e
        cases e
        exact F₃.keep _ _ hg
    cases f with
    | ret v => exact h₃
    | brk => exact h₃
    | cont => exact fin _ h₃
    | next => exact fin _ h₃
  · have hin : i = vs.length := by omega
    subst hin
    refine W.done _ _ _ (by simpa using hst) fun h₁ tk₁ hk₁ => ?_
    obtain ⟨F₁, N₁⟩ := next h₁ hk₁
    exact wpAny_passesOwn hE (done us news h₁ tk₁ hK F₁ N₁)
end
theorem nm_over {names names' : List Str} {us m m₀ : Str → Option Value} (hs : ∀ z ∈ names', z ∈ names) (h : ∀ z, z ∉ names → m z = m₀ z) : ∀ z, z ∉ names → over names' us m z = m₀ z := by
  intro z hz
  rw [over_out fun e => hz (hs z e), h z hz]
/-- the first j tests failed -/
noncomputable def Fl (f : Int → Int) (bs : List Int) (j : Nat) : Prop := ∀ b ∈ bs.take j, f b ≠ b
theorem Fl.zero {f : Int → Int} {bs : List Int} : Fl f bs 0 := fun b hb => nomatch hb
theorem Fl.next {f : Int → Int} {bs : List Int} {j : Nat} {b : Int} (h : Fl f bs j) (hb : bs[j]? = some b) (hn : f b ≠ b) : Fl f bs (j + 1) := by
  intro c hc
  rw [List.take_add_one, hb] at hc
  rcases List.mem_append.mp hc with hc | hc
  · exact h c hc
  · have : c = b := by simpa using hc
    rw [this]; exact hn
end
section
open _root_.PySem _root_.PySem.W _root_.PyProof.Rows _root_.PySem.Calls
set_option maxRecDepth 100000
set_option maxHeartbeats 1000000
section
variable {prog : Program} {w : World} {A : Around} {E : Value → Shared → Prop} {s : Shared} {env : Env} {h₀ : Heap} {body : List Stmt} {Q : Flow → Shared → Prop} {K : Frag}
theorem loop_enumK (names : List Str) {elts : List Expr} {k : Nat} {pos : Pos} {ax : Addr} {lo : Obj} {vs : List Value} {n : Nat} {m₀ : Str → Option Value} {news₀ : List (Addr × Obj)} (Kn : Nat → List (Addr × Obj) → Prop)
    (hh : A.handled = none) (F : Fr h₀ env.locals s.heap m₀) (N : News h₀ env.locals s.heap news₀) (X₀ : K.In h₀) (hk : K.lookup ax = some lo) (hc : lo.cls = .type "tuple") (hd : lo.data = .seq vs.toArray n)
    (h0 : Kn 0 news₀)
    (step : ∀ (I : Addr), (∀ p ∈ news₀, p.1 < I) → ∀ (i : Nat) (v : Value) (us : Str → Option Value) (news : List (Addr × Obj)), vs[i]? = some v → Kn i news → ∀ h tk (T : Addr) (t : Tok) (ie it : Obj), ie.cls = .type "enumerate" → it.cls = .type "tuple_iterator" → IsTup h T #[.int (i : Int) t, v] → Fr h₀ env.locals h (over names us m₀) → News h₀ env.locals h ((I + 1, ie) :: (I, it) :: news) →
      wpAny (model prog w) A (assign (.Tuple elts k pos) env (.ref T)) (fun _ s₂ => wpAny (model prog w) A (execs body env) (UnrPostW h₀ env.locals { s with heap := h, toks := tk } [(I + 1, ie), (I, it)] (fun m' n' => SubL [] n' ∧ TurnOk names m₀ (Kn (i + 1)) m' n') Q) E s₂) E { s with heap := h, toks := tk })
    (done : ∀ us news h tk, Kn vs.length news → Fr h₀ env.locals h (over names us m₀) → News h₀ env.locals h news → Q .next { s with heap := h, toks := tk }) :
    wpAny (model prog w) A (call (.type "enumerate") [.ref ax]) (fun xv s₁ => wpAny (model prog w) A (pyIter xv) (fun it s₂ => TurnsAt prog w A h₀ env (.Tuple elts k pos) body Q E it s₂) E s₁) E s := by
  refine enum_K hh F N X₀ hk hc hd rfl fun I hI => ?_
  have := items_ind (prog := prog) (w := w) (A := A) (E := E) (s := s) (env := env) (h₀ := h₀) (target := .Tuple elts k pos) (body := body) (Q := Q) (ws := [(I + 1, "enumerate"), (I, "tuple_iterator")]) (keep := []) (xs := enumItems 0 vs) (fun i m news => (∃ us, m = over names us m₀) ∧ Kn i news) ?_ ?_ _ 0 m₀ news₀ rfl (Nat.zero_le _) ⟨over_of fun _ _ => rfl, h0⟩ trivial
  · simpa using this
  · rintro i a m news ha ⟨⟨us, rfl⟩, hK⟩ hs v h tk hv F
    have hlt : i < vs.length := by
      have := (List.getElem?_eq_some_iff.mp ha).1
      rwa [enumItems_length] at this
    have hx : vs[i]? = some vs[i] := by simp [hlt]
    have e := enumItems_get vs 0 i hx
    rw [ha] at e
    cases e
    obtain ⟨T, t, rfl, hT⟩ := hv
    rw [Nat.zero_add] at hT
    intro ie hie it hit N
    refine wpAny_mono (step I hI i _ us news hx hK h tk T t ie it hie hit hT F N) (fun _ s₂ h₂ => wpAny_mono h₂ (fun f s₃ p => unr_mono (fun m' n' q => ⟨q.1, q.2.nm, q.2.wd⟩) p) fun _ _ e => e) fun _ _ e => e
  · rintro m news h tk ⟨⟨us, rfl⟩, hK⟩ F N
    rw [enumItems_length] at hK
    exact done us news h tk hK F N
end
end
section
open _root_.PySem _root_.PySem.W _root_.PyProof.Rows _root_.PySem.Calls
set_option maxRecDepth 100000
set_option maxHeartbeats 1000000
section
variable {prog : Program} {w : World} {A : Around} {E : Value → Shared → Prop} {s : Shared} {env : Env} {h₀ : Heap} {target : Expr} {body : List Stmt} {Q : Flow → Shared → Prop}
theorem letGo_rangeiter {E : Value → Shared → Prop} {I : Addr} {x y z : Int} {v : Value} {Q' : Unit → Shared → Prop} {s' : Shared} (hit : IsRangeIter s'.heap I x y z) (h : Q' () s') :
    wpAny (model prog w) A (letOwnedTupleGo target (.ref I) v) Q' E s' := by
  unfold letOwnedTupleGo
  cases target <;> first
    | exact wpAny_pure h
    | (cases v <;> first
        | exact wpAny_pure h
        | (refine wpAny_bind (wpAny_load hit ?_); dsimp only; refine wpAny_ite_false (by simp) (wpAny_pure h)))
/-- a loop over a range, by an invariant -/
theorem loop_range (names : List Str) {r : Addr} {a b c : Int} {t u v : Tok} {n : Nat} {m₀ : Str → Option Value} {news₀ : List (Addr × Obj)} (Kn : Nat → List (Addr × Obj) → Prop)
    (hh : A.handled = none) (hr : IsRange s.heap r a b c t u v) (hsmall : Builtin.Range.small a b c = true) (hn : Builtin.Range.rangeSize a b c = (n : Int)) (F : Fr h₀ env.locals s.heap m₀) (N : News h₀ env.locals s.heap news₀)
    (h0 : Kn 0 news₀)
    (step : ∀ (I : Addr), (∀ p ∈ news₀, p.1 < I) → ∀ (i : Nat) (z : Int) (t : Tok) (us : Str → Option Value) (news : List (Addr × Obj)), i < n → z = a + i * c → Kn i news → ∀ h tk (it : Obj), it.cls = .type "range_iterator" → Fr h₀ env.locals h (over names us m₀) → News h₀ env.locals h ((I, it) :: news) →
      wpAny (model prog w) A (assign target env (.int z t)) (fun _ s₂ => wpAny (model prog w) A (execs body env) (UnrPostW h₀ env.locals { s with heap := h, toks := tk } [(I, it)] (fun m' n' => SubL [] n' ∧ TurnOk names m₀ (Kn (i + 1)) m' n') Q) E s₂) E { s with heap := h, toks := tk })
    (done : ∀ us news h tk, Kn n news → Fr h₀ env.locals h (over names us m₀) → News h₀ env.locals h news → Q .next { s with heap := h, toks := tk }) :
    wpAny (model prog w) A (pyIter (.ref r)) (fun it s₂ => TurnsAt prog w A h₀ env target body Q E it s₂) E s := by
  refine wpAny_pyIter_range hr hsmall ?_
  rw [hn]
  have F0 := F
  have hlen : ((List.range n).map fun i => Itm.tok fun t => .int (a + ((i : Nat) : Int) * c) t).length = n := by simp
  have hnew : ∀ p ∈ news₀, p.1 < s.heap.objs.size := fun p hp => Heap.lt_size (N p hp).1
  refine ktg_core (tk0 := s.toks) (keep := []) (ws := [(s.heap.objs.size, "range_iterator")]) (xs := (List.range n).map fun i => Itm.tok fun t => .int (a + ((i : Nat) : Int) * c) t) (KTurns.ofWalks (Walks.range hh s.heap.objs.size a c n).bound fun i v s Q E st q => letGo_rangeiter st q) hlen.symm ?_ (fun i h st => ?_) (fun b hb => ?_) (fun b hb => by simpa using hb) (fun b hb => ?_) ?_ (fun p hp hI => ?_) ?_ (F.push _) (fun p hp => ⟨Heap.get?_push_of_some _ (N p hp).1, (N p hp).2⟩) trivial ?_
  · rintro i v h ⟨hi, t, rfl⟩
    exact ⟨Itm.tok fun t => .int (a + ((i : Nat) : Int) * c) t, by simp [hi], t, rfl⟩
  · exact ⟨[(s.heap.objs.size, _)], ⟨⟨rfl, rfl⟩, trivial⟩, fun p hp => by rw [List.mem_singleton.mp hp]; exact st⟩
  · have hb' : b = s.heap.objs.size := by simpa using hb
    rw [hb']
    exact ⟨List.mem_cons_self .., next_is_new F⟩
  · exact .inl (by simpa using hb)
  · intro hI
    exact absurd F.ns.lt ((List.mem_singleton.mp hI) ▸ Nat.lt_irrefl _)
  · exact absurd (Heap.lt_size (N p hp).1) ((List.mem_singleton.mp hI) ▸ Nat.lt_irrefl _)
  · simpa using Heap.get?_push_size _ rfl
  · have := items_ind (prog := prog) (w := w) (A := A) (E := E) (s := s) (env := env) (h₀ := h₀) (target := target) (body := body) (Q := Q) (ws := [(s.heap.objs.size, "range_iterator")]) (keep := []) (xs := (List.range n).map fun i => Itm.tok fun t => .int (a + ((i : Nat) : Int) * c) t) (fun i m news => (∃ us, m = over names us m₀) ∧ Kn i news) ?_ ?_ _ 0 m₀ news₀ rfl (Nat.zero_le _) ⟨over_of fun _ _ => rfl, h0⟩ trivial
    · simpa using this
    · rintro i x m news ha ⟨⟨us, rfl⟩, hK⟩ hs v h tk hv F
      have hlt : i < n := by
        have := (List.getElem?_eq_some_iff.mp ha).1
        rwa [hlen] at this
      have e : ((List.range n).map fun i => Itm.tok fun t => .int (a + ((i : Nat) : Int) * c) t)[i]? = some (Itm.tok fun t => .int (a + ((i : Nat) : Int) * c) t) := by simp [hlt]
      rw [ha] at e
      cases e
      obtain ⟨t, rfl⟩ := hv
      intro it hit N
      refine wpAny_mono (step _ hnew i _ t us news hlt rfl hK h tk it hit F N) (fun _ s₂ h₂ => wpAny_mono h₂ (fun f s₃ p => unr_mono (fun m' n' q => ⟨q.1, q.2.nm, q.2.wd⟩) p) fun _ _ e => e) fun _ _ e => e
    · rintro m news h tk ⟨⟨us, rfl⟩, hK⟩ F N
      rw [hlen] at hK
      exact done us news h tk hK F N
end
end
open _root_.PySem _root_.PySem.W _root_.PyProof.Rows _root_.PySem.Calls
example : PySem.Challenge.rw_rt0068_01 = PySem.Challenge.rw_rt0068_01 ∧ hd.heap_1 = hd.heap_1 := by
  k_fill
  exact ⟨rfl, rfl⟩
local macro_rules | `(tactic| cell_enter) => `(tactic| (refine' enter_def ?k1 ?k2 ?k3 ?k5 ?kA ?kF ?kK ?k6 ?k7 ?k8 ?k9 ?kB ?_ ?c2 ?c3 ?c4 ?c5; (case kA | kF => exact rfl); (case kK => assumption); (case k1 | k2 | k3 | k5 => k_asm); (case k6 | k7 => k_is); (case k8 => ktr_room); (case k9 => exact BindsTo.of_eq rfl); (case c5 => decide); (case kB => exact locs rfl); (case c2 | c3 | c4 => exact rfl); k_whole; intro L' h' F' N' B' X' T'; (try dsimp only); (try k_fold)))
local macro_rules | `(tactic| w_left) => `(tactic| ((case k1 | k2 | k3 | k4 | k5 => k_asm); (case kK => first | exact rfl | assumption); (case kd => ktr_room); (case ku => ktr_units); (case kp => trivial); k_whole))
section
example : True := by
  w_top off
  trivial
open _root_.PySem _root_.PySem.W _root_.PyProof.Rows _root_.PySem.Calls
set_option maxRecDepth 100000
set_option maxHeartbeats 8000000
local macro_rules | `(tactic| is_list) => `(tactic| exact led_list (by k_asm) (by k_mem))
local macro_rules | `(tactic| walk_at "exec For Name Call cons nil") => `(tactic| (k_here; (rename Fr _ _ _ _ => lF'); (with_unfolding_all refine' For_turns lF' ?_); k_whole))
local macro_rules | `(tactic| k_mem) => `(tactic| assumption)
local macro_rules | `(tactic| k_all) => `(tactic| assumption)
local macro_rules | `(tactic| walk_at "subscriptTail") => `(tactic| (k_here; (with_reducible show wpAny _ _ (subscriptTail _ _ (Value.ref _) (Value.int _ _)) _ _ _); k_dflt (refine' item_at ?hl ?h0 ?hh ?hx ?_ ?hs; (case hl => is_list); (case h0 | hh => omega); (case hx => first | assumption | rfl); (case hs => with_unfolding_all rfl); k_whole)))
theorem nats_at {fv : List (Nat × Tok)} {n : Nat} {m : Int} (h : ∀ p ∈ fv, p.1 < n) (h0 : 0 ≤ m) (h1 : m < fv.length) : ∃ (a : Nat) (ta : Tok), (natsV fv)[m.toNat]? = some (.int (a : Int) ta) ∧ a < n := by
  have hm : m.toNat < fv.length := by omega
  refine ⟨fv[m.toNat].1, fv[m.toNat].2, ?_, h _ (List.getElem_mem hm)⟩
  unfold natsV
  rw [List.getElem?_map, List.getElem?_eq_getElem hm]; rfl
noncomputable def TreeOut (n : Nat) (h : Heap) (r : Value) (h' : Heap) : Prop :=
  ∃ (E : Addr) (rows : List (Addr × Obj)) (as : List Addr) (rs : List Row) (e : Nat), r = .ref E ∧ TreeOk rs ∧ rs.length = n + 1 ∧ RowObjs rows as rs ∧ (∀ p ∈ rows, p.2.cls = .type "list") ∧ ∀ p ∈ (E, W.listOf (as.map Value.ref).toArray e) :: rows, h.get? p.1 = none ∧ h'.get? p.1 = some p.2
theorem c_tree (w : World) (N : Addr) (vs : List Value) (ns : List Int) (hi : IntsAre vs ns) (hlen : ns.length ≤ 10) : Con w 20 225 [.ref N] (fun h => h.IsList N vs.toArray) (TreeOut ns.length) := by
  unfold Con; intros; rename_i hret
  refine wpAny_call ?_
  k_dflt (refine' enter_def (binds := [(Str.ofString "numbers", .ref N)]) ?k1 ?k2 ?k3 ?k5 ?kA ?kF ?kK ?k6 ?k7 ?k8 ?k9 ?kB ?_ ?c2 ?c3 ?c4 ?c5; (case kA => exact rfl); (case kF => exact rfl); (case kK => assumption); (case k1 => k_asm); (case k2 => k_asm); (case k3 => k_asm); (case k5 => k_asm); (case k6 => k_is); (case k7 => k_is); (case k8 => ktr_room); (case k9 => exact BindsTo.of_eq rfl); (case c5 => decide); (case kB => exact locs rfl); (case c2 => exact rfl); (case c3 => exact rfl); (case c4 => exact rfl); k_whole; intro L' h' F' N' B' X' T'; (try dsimp only); (try k_fold))
  rename Heap.IsList _ _ _ => hL
  have hvl : vs.length = ns.length := hi.length
  have hvz : vs.toArray.size ≤ 10 := by rw [List.size_toArray]; omega
  k_steps
  rename Fr _ _ _ _ => hF
  rename IsRange _ _ _ _ _ _ _ _ => hR
  rename News _ _ _ _ => hN
  refine loop_range [Str.ofString "k", Str.ofString "x", Str.ofString "above", Str.ofString "path"] (n := ns.length) (Kt _ _) rfl hR (small_one (by decide) (by decide) (by omega) (by omega)) ((rangeSize_nat _ _).trans (by omega)) hF (news_sub hN fun p hp => List.mem_cons_of_mem _ hp) ⟨_, [_], [⟨[47], 0, 501, 0⟩], [(0, _)], _, _, rfl, rows_root, tree_root, rfl, ?_, ?_, by simp [W.listOf], by simp, by simp, by simp⟩ ?step ?done
  · intro p hp
    obtain rfl := List.mem_singleton.mp hp
    refine neN ?_; dsimp only; omega
  · intro p hp
    obtain rfl := List.mem_singleton.mp hp
    refine neN ?_; dsimp only; omega
  case step =>
    rintro I hI i z t us news hin hz ⟨rows, as, rs, fv, e, e', rfl, hRo, hT, hl, hE, hFo, hcl, hf0, hfl, hfa⟩ h tk it hit F N2
    obtain rfl : z = (i : Int) := by omega
    k_lt hI
    obtain ⟨x, tx, hx⟩ := ints_at hi i hin
    have hx' : vs[((i : Int)).toNat]? = some (.int x tx) := by simpa using hx
    have hfz : (natsV fv).toArray.size = fv.length := by unfold natsV; simp
    have hf1 : 0 < fv.length := List.length_pos_iff.mpr hf0
    clear hF hN hR hx hx' tx x
    have hXm := Int.fmod_nonneg_of_pos (ns.getD (i : Int).toNat 0) (b := (fv.length : Int)) (by omega)
    have hXl := Int.fmod_lt_of_pos (ns.getD (i : Int).toNat 0) (b := (fv.length : Int)) (by omega)
    obtain ⟨a, ta, hfx, har⟩ := nats_at (fv := fv) hfa hXm hXl
    obtain ⟨u, hu⟩ : ∃ u, rs[a]? = some u := ⟨rs[a], by simp [har]⟩
    obtain ⟨ra, hra⟩ : ∃ ra, as[a]? = some ra := ⟨as[a]'(by rw [hRo.1]; exact har), by simp⟩
    obtain ⟨t1, t2, t3, t4, e3, hrow⟩ := hRo.2 a ra u hra hu
    have hx2 : (as.map Value.ref)[((a : Int)).toNat]? = some (.ref ra) := by rw [List.getElem?_map, Int.toNat_natCast, hra]; rfl
    have hlet := letter_at ⟨i, by omega⟩
    have hul := (row_len hT hu).1
    have hul2 : (S u.p).length ≤ 40 := by rw [S_len]; exact hul
    have hasz : (as.map Value.ref).toArray.size ≤ 20 := by rw [List.size_toArray, List.length_map, hRo.1]; omega
    have hfz2 : (natsV fv).toArray.size ≤ 20 := by rw [hfz]; omega
    have hi10 : (i : Int) < 10 := by omega
    have har2 : a ≤ 10 := by omega
    by_cases ha0 : 0 < a
    · k_steps
      all_goals (
        rename Fr _ _ _ _ => F3
        rename News _ _ _ _ => N3
        first
          | exact tree_turn F3 N3 hit rfl hcl (nm_put (by decide +kernel) (nm_put (by decide +kernel) (nm_put (by decide +kernel) (nm_put (by decide +kernel) nm_base)))) (kt_step hRo hT hl (by omega) hE hFo hcl hf0 hfl hfa (mod_room _ 3 (by decide)) (mod_room _ 512 (by decide)) hu (path_sub hl (by omega) ha0) (neN (by omega)) (neN (by omega)) (fv' := fv) rfl (.inl rfl))
          | exact tree_turn F3 N3 hit rfl hcl (nm_put (by decide +kernel) (nm_put (by decide +kernel) (nm_put (by decide +kernel) (nm_put (by decide +kernel) nm_base)))) (kt_step hRo hT hl (by omega) hE hFo hcl hf0 hfl hfa (mod_room _ 3 (by decide)) (mod_room _ 512 (by decide)) hu (path_sub hl (by omega) ha0) (neN (by omega)) (neN (by omega)) (fv' := fv ++ [(i + 1, _)]) (by simp [natsV]; rfl) (.inr ⟨_, rfl⟩))
          | trace_state)
    · obtain rfl : a = 0 := by omega
      k_steps
      all_goals (
        rename Fr _ _ _ _ => F3
        rename News _ _ _ _ => N3
        first
          | exact tree_turn F3 N3 hit rfl hcl (nm_put (by decide +kernel) (nm_put (by decide +kernel) (nm_put (by decide +kernel) (nm_put (by decide +kernel) nm_base)))) (kt_step hRo hT hl (by omega) hE hFo hcl hf0 hfl hfa (mod_room _ 3 (by decide)) (mod_room _ 512 (by decide)) hu (path_top hl (by omega)) (neN (by omega)) (neN (by omega)) (fv' := fv) rfl (.inl rfl))
          | exact tree_turn F3 N3 hit rfl hcl (nm_put (by decide +kernel) (nm_put (by decide +kernel) (nm_put (by decide +kernel) (nm_put (by decide +kernel) nm_base)))) (kt_step hRo hT hl (by omega) hE hFo hcl hf0 hfl hfa (mod_room _ 3 (by decide)) (mod_room _ 512 (by decide)) hu (path_top hl (by omega)) (neN (by omega)) (neN (by omega)) (fv' := fv ++ [(i + 1, _)]) (by simp [natsV]; rfl) (.inr ⟨_, rfl⟩))
          | trace_state)
  case done =>
    rintro us news h tk ⟨rows, as, rs, fv, e, e', rfl, hRo, hT, hl, hE, hFo, hcl, hf0, hfl, hfa⟩ F N2
    clear hF hN hR
    k_steps
    rename News _ _ _ _ => N3
    exact hret _ _ _ (Fr.keep (by k_asm)) ⟨_, rows, as, rs, e, rfl, hT, hl, hRo, hcl, fun p hp => ⟨(N3 p (List.mem_cons_of_mem _ hp)).2.2, (N3 p (List.mem_cons_of_mem _ hp)).1⟩⟩
end
section
open _root_.PySem _root_.PySem.W _root_.PyProof.Rows _root_.PySem.Calls
set_option maxRecDepth 100000
set_option maxHeartbeats 800000
section
variable {prog : Program} {w : World} {A : Around} {E : Value → Shared → Prop} {s : Shared}
theorem sub_tup_tup : isSubtype (.type "tuple") (.type "tuple") = pure true := by rw [isSubtype_type]; kernel_rfl
theorem sub_str_str : isSubtype (.type "str") (.type "str") = pure true := by rw [isSubtype_type]; kernel_rfl
theorem nested_in {R : Result → Shared → Prop} {x c : Value} {k : Int}
    (h : wpAny (model prog w) A.in1 (Builtin.«issubclass.nested» ⟨[x, c, rawInt k], []⟩)
      (fun fin s' => match fin with | .done f => R (.ok f) s' | .again c' => c'.quiet = true ∧ codeAny (model prog w) A c' R s') (fun e s' => R (.error e) s') s) :
    codeAny (model prog w) A (.builtin "issubclass.nested" ⟨[x, c, rawInt k], []⟩) R s := by
  refine codeAny_builtin F.entry_issubclass_nested ?_
  rw [Around.under_plain (show (Code.builtin "issubclass.nested" ⟨[x, c, rawInt k], []⟩).weight = 0 from rfl) rfl]
  exact h
theorem plain_nested : plainId "issubclass.nested" = true := by decide +kernel
theorem kind_nested : builtinKind "issubclass.nested" = none := by decide +kernel
theorem args_nested (a b c : Value) : argsOk "issubclass.nested" ⟨[a, b, c], []⟩ := by unfold argsOk; kernel_rfl
abbrev finK (M : Model) (A : Around) (R : Result → Shared → Prop) : PySem.Fin → Shared → Prop := fun fin s' => match fin with | .done f => R (.ok f) s' | .again c' => c'.quiet = true ∧ codeAny M A c' R s'
theorem code_fun {id : String} {B : Builtin} {args : List Value} {R : Result → Shared → Prop} (kind : builtinKind id = none) (plain : plainId id = true)
    (entry : entryFor table id = some B) (ok : argsOk id ⟨args, []⟩) (hfin : wpAny (model prog w) A.in1 (B ⟨args, []⟩) (finK (model prog w) A R) (fun e s' => R (.error e) s') s) :
    codeAny (model prog w) A (.call (.builtin id) ⟨args, []⟩) R s := by
  refine codeAny_call_builtin plain entry ?_
  simp only [checkBuiltinCall, kind]
  cases hsig : Manifest.signature? id with
  | none => exact wpAny_pure hfin
  | some sig =>
    simp only [argsOk, hsig] at ok
    have h2 : Bind.checkArgs id sig ⟨args, []⟩ = pure () := ok
    show wpAny _ _ (Bind.checkArgs id sig ⟨args, []⟩) _ _ s
    rw [h2]; exact wpAny_pure hfin
theorem issub_str {T : Addr} {o : Obj} {n : Nat} {Q : Value → Shared → Prop} (ho : s.heap.get? T = some o) (hc : o.cls = .type "tuple") (hd : o.data = .seq #[.type "str", .type "bytes"] n)
   (h : Q (.bool true) s) : wpAny (model prog w) A (call (.builtin "issubclass") [.type "str", .ref T]) Q E s := by
  refine call_issubclass (S := fun _ R s' => s'.heap.get? T = some o ∧ R (.ok (.ret (.bool true))) s') ?_ ⟨ho, h⟩
  intro prog w A R s' hs
  obtain ⟨ho, hs⟩ := hs
  refine issubclass_outer ?_
  have hT : s'.TypeIs (.ref T) "tuple" := ⟨o, ho, hc⟩
  obtain ⟨oc, od, odt, osl⟩ := o
  cases hc
  cases hd
  wp_walk
  refine wpAny_of_eq sub_tup_tup ?_
  wp_walk
  refine code_fun kind_nested plain_nested F.entry_issubclass_nested (args_nested _ _ _) ?_
  wp_walk
  refine wpAny_of_eq sub_str_str ?_
  repeat (first | exact hs | (refine ⟨_, rfl, ?_⟩) | wp_step)
end
end
section
example : True := by
  w_top off
  trivial
open _root_.PySem _root_.PySem.W _root_.PyProof.Rows _root_.PySem.Calls
set_option maxRecDepth 100000
set_option maxHeartbeats 8000000
local macro_rules | `(tactic| walk_at "call builtin:issubclass") => `(tactic| (k_here; k_dflt (refine' issub_str ?k1 ?k2 ?k3 ?_; (case k1 => exact News.get (by k_asm) (by k_mem)); (case k2 | k3 => rfl); k_whole)))
theorem c_fspath (w : World) (x : Str) (tx : Tok) : Con w 1 101 [.str x tx] (fun _ => True) (fun _ r _ => r = .str x tx) := by
  unfold Con; intros; rename_i hret
  refine wpAny_call ?_
  k_dflt cell_enter
  k_steps
  exact hret _ _ _ (Fr.keep (by k_asm)) rfl
theorem c_getsep (w : World) (x : Str) (tx : Tok) : Con w 1 115 [.str x tx] (fun _ => True) (fun _ r _ => ∃ t, r = .str (Str.ofString "/") t) := by
  unfold Con; intros; rename_i hret
  refine wpAny_call ?_
  k_dflt cell_enter
  k_steps
  exact hret _ _ _ (Fr.keep (by k_asm)) ⟨_, rfl⟩
end
section
local macro_rules | `(tactic| walk_at "pad") => `(tactic| skip)
example : True := by
  w_top off
  trivial
open _root_.PySem _root_.PySem.W _root_.PyProof.Rows _root_.PySem.Calls
set_option maxRecDepth 100000
set_option maxHeartbeats 8000000
local macro_rules | `(tactic| walk_at "call ref") => `(tactic| (k_here; k_dflt (first
  | (refine' con_use ?C ?k1 ?k2 ?k3 ?k4 ?k5 ?kK ?kd ?ku ?kp ?_; (case C => first | exact c_fspath _ _ _ | exact c_getsep _ _ _); w_left; intro r9 h9 tk9 K9 F9 N9 ho9; (first | subst ho9 | (obtain ⟨t9, ho9⟩ := ho9; subst ho9)); (try dsimp only)))))
/-- the head of a path ahead of its last part -/
theorem c_dirname (w : World) (a b : List Nat) (x : Str) (tx : Tok) (hxe : x = S (a ++ 47 :: b)) (hb : 47 ∉ b) (ha : ∀ z, a.getLast? = some z → z ≠ 47) (hx : x.length ≤ 1000) :
    Con w 2 136 [.str x tx] (fun _ => True) (fun _ r _ => ∃ t, r = .str (S (if a = [] then [47] else a)) t) := by
  have e1 : Txt.rfind x (Str.ofString "/") = a.length := by rw [hxe, slash_is]; exact rfind_last a b 47 hb
  have e2 : Txt.slice x none (some (Txt.rfind x (Str.ofString "/") + 1)) = S (a ++ [47]) := by
    rw [e1, hxe, slice_to _ _ (by simp; omega)]
    congr 1
    have : ((a.length : Int) + 1).toNat = a.length + 1 := by omega
    rw [this, List.take_append]
    simp [List.take_of_length_le]
  have e3 : Txt.rstripChars (Txt.slice x none (some (Txt.rfind x (Str.ofString "/") + 1))) (Str.ofString "/") = S a := by
    rw [e2, slash_is]; exact rstrip_one a 47 ha
  unfold Con; intros; rename_i hret
  refine wpAny_call ?_
  k_dflt cell_enter
  k_steps
  · rename ((_ : Str) != _) = true => hne
    refine hret _ _ _ (Fr.keep (by k_asm)) ⟨_, congrArg (fun z => Value.str z _) (e3.trans ?_)⟩
    rw [if_neg]
    intro h0
    rw [e2, slash_is, S_len, h0] at hne
    exact absurd hne (by decide +kernel)
  · rename ((_ : Str) != _) = false => hne
    refine hret _ _ _ (Fr.keep (by k_asm)) ⟨_, congrArg (fun z => Value.str z _) (e2.trans ?_)⟩
    rw [e2, slash_is, S_len] at hne
    have hm := mul_one' 47 (a ++ [47]).length (by simp)
    rw [hm] at hne
    have hq : S (a ++ [47]) = S (List.replicate (a ++ [47]).length 47) := by simpa using hne
    rw [S_inj] at hq
    by_cases h0 : a = []
    · subst h0; rfl
    · exfalso
      have h1 : ∀ z ∈ a ++ [47], z = 47 := by rw [hq]; intro z hz; exact (List.mem_replicate.mp hz).2
      have h2 := List.getLast?_eq_some_getLast h0
      exact ha _ h2 (h1 _ (by simp [List.getLast_mem h0]))
  · exfalso
    rename (Nat.cast _ : Int) = 0 => hz
    rw [e2, S_len] at hz
    simp at hz
    omega

/-- a path that begins with one slash: the slash, and the rest -/
theorem c_splitroot (w : World) (y : List Nat) (x : Str) (tx : Tok) (hxe : x = S (47 :: y)) (hy : y ≠ []) (hh : y.head? ≠ some 47) (hx : x.length ≤ 1000) :
    Con w 2 129 [.str x tx] (fun _ => True) (fun h r h' => ∃ D t1 t2 t3, r = .ref D ∧ h.get? D = none ∧ h'.get? D = some { cls := .type "tuple", data := .seq #[.str (Str.ofString "") t1, .str (Str.ofString "/") t2, .str (S y) t3] }) := by
  have e1 : Txt.slice x none (some 1) = S [47] := by
    rw [hxe, slice_to _ _ (by simp; omega)]; rfl
  have e2 : Txt.slice x (some 1) none = S y := by
    rw [hxe, slice_from _ _ (by simp; omega)]; rfl
  have e3 : Txt.slice x (some 1) (some 2) = S (y.take 1) := by
    have : 1 ≤ y.length := by
      cases y with
      | nil => exact absurd rfl hy
      | cons _ _ => simp
    rw [hxe, slice_mid _ _ _ (by simp; omega)]; rfl
  have b1 : (Txt.slice x none (some 1) != Str.ofString "/") = false := by rw [e1, slash_is]; decide +kernel
  have b2 : (Txt.slice x (some 1) (some 2) != Str.ofString "/") = true := by
    rw [e3, slash_is]
    cases y with
    | nil => exact absurd rfl hy
    | cons z r =>
      simp at hh ⊢
      exact hh
  unfold Con; intros; rename_i hret
  refine wpAny_call ?_
  k_dflt cell_enter
  k_steps
  rename News _ _ _ ((_, _) :: _) => hN
  rw [e2] at hN
  exact hret _ _ _ (Fr.keep (by k_asm)) ⟨_, _, _, _, rfl, hN.fresh (.head _), hN.get (.head _)⟩
end
section
open _root_.PySem _root_.PySem.W _root_.PyProof.Rows _root_.PySem.Calls
set_option maxRecDepth 100000
set_option maxHeartbeats 8000000

section
variable {prog : Program} {w : World} {A A₀ : Around} {s : Shared} {K : Frag} {L : Addr} {h₀ base : Heap} {m mg mb : Str → Option Value} {p : Program} {loose : List Str} {mean : ExcName → Option Value}
theorem wp_peek1 {α : Type} {M : Model} {E : Value → Shared → Prop} {Q : α → Shared → Prop} {o : Obj} {r : Addr → α} (X : K.In s.heap) (hf : o.isFreed = false)
    (q : Q (r s.heap.objs.size) { s with heap := s.heap.push o }) :
    ∀ (t : Sem α) (g : Addr → Option α), peek1 K ⟨M.prog, M.w.params⟩ t = some (o, g) → (∀ D, g D = some (r D)) → wpAny M A t Q E s := by
  intro t
  induction t with
  | rule _ k ih => intro g e hg Γ p hΓ; exact ih () g e hg Γ p hΓ
  | point _ k ih => intro g e hg Γ p hΓ; exact ih () g e hg Γ p hΓ
  | ask k ih => intro g e hg Γ p hΓ; exact ih _ g e hg Γ p hΓ
  | load a _ k ih =>
    intro g e hg Γ p hΓ
    simp only [peek1] at e
    split at e
    · rename_i ob ho; exact ⟨ob, X _ _ ho, ih ob g e hg Γ p hΓ⟩
    · cases e
  | alloc ob k _ =>
    intro g e hg
    have e : some (ob, fun D => peek K ⟨M.prog, M.w.params⟩ (k D)) = some (o, g) := e
    obtain ⟨e1, e2⟩ := Prod.mk.inj (Option.some.inj e)
    subst e1
    subst e2
    have X' : K.In (s.heap.push ob) := X.keeps fun b x hb => Heap.get?_push_of_some _ hb
    show wpAny M A (alloc ob >>= k) Q E s
    refine wpAny_bind (wpAny_alloc ?_)
    exact (Looks.of_peek (M := M) (h := s.heap.push ob) X' (hg s.heap.objs.size)).here (s := { s with heap := s.heap.push ob }) q
  | _ => intro g e; cases e
theorem enter_rest {env : Env} {outer : List Env} {R : Result → Shared → Prop} {name qual : Str} {params : Arguments} {body : List Stmt} {scope : Scope} {dV kV doc pm cdv ct oc : Value} {an od : Option Addr} {osl : Array (Option Value)} {f : Addr} {args : Args} {vs : List Value} {g₁ : Addr → Option (List (Str × Value))} {binds : Addr → List (Str × Value)}
    (B : Below A₀ base outer h₀) (F : Fr h₀ L s.heap m) (X₀ : K.In h₀) (T : Top p loose mean mg mb h₀) (hA : A.frames = some (env :: outer)) (hf : env.frame = some L) (hke : env.scope.kind = .function)
    (ho : K.lookup f = some ⟨oc, od, .func (fnOf name qual params body scope dV kV doc pm an cdv ct), osl⟩) (hcd : codeIn K cdv qual = true) (hroom : A.depth < recursionLimit)
    (hv : args.pos.drop (params.posonlyargs.length + params.args.length) = vs)
    (hp : peek1 K ⟨prog, w.params⟩ (bindArgs (fnOf name qual params body scope dV kV doc pm an cdv ct) args) = some (({ cls := .type "tuple", data := .seq vs.toArray } : Obj), g₁))
    (hg : ∀ D, g₁ D = some (binds D)) (hloc : ∀ D, ∀ y ∈ binds D, scope.names.lookup y.1 = some .local)
    (h : ∀ D L' h₁, Fr s.heap L' h₁ (fun y => (binds D).reverse.lookup y) → News s.heap L' h₁ [(D, ({ cls := .type "tuple", data := .seq vs.toArray } : Obj))] → Below A base (env :: outer) s.heap → K.In s.heap → Top p loose mean mg mb s.heap →
      wpAny (model prog w) (A.deeper (envOf qual scope L' f cdv)) (execs body (envOf qual scope L' f cdv))
        (fun fl s' => R (.ok (.ret (match fl with | .ret v => v | _ => .none))) s')
        (fun e s' => wpAny (model prog w) (A.deeper (envOf qual scope L' f cdv)) (leaving (envOf qual scope L' f cdv) e) (fun _ s'' => R (.error e) s'') (fun e' s'' => R (.error e') s'') s')
        { s with heap := h₁, toks := s.toks + (binds D).length })
    (hco : scope.isCoroutine = false) (hgen : scope.isGenerator = false) (hk : scope.kind = .function)
    (hcell : ∀ x ∈ scope.names, x.2 ≠ .cell) : codeAny (model prog w) A (.call (.ref f) args) R s := by
  have _ := hv
  have X' := X₀.keeps F.keep
  have B₁ := pushX B F hf hke
  refine codeAny_call_function (fd := fnOf name qual params body scope dV kV doc pm an cdv ct) (body := body) hroom (X' _ _ ho) rfl hco hgen rfl (codeRec_of X' hcd) ?_
  refine wp_peek1 (o := ({ cls := .type "tuple", data := .seq vs.toArray } : Obj)) X' rfl (r := binds) ?_ _ g₁ hp hg
  have k0 : Ext s.heap (s.heap.push ({ cls := .type "tuple", data := .seq vs.toArray } : Obj)) := fun b o e => Heap.get?_push_of_some _ e
  refine wpAny_newFunctionEnv hcell (hloc _) (fun h₁ hns hsb => ⟨((T.nolimit.keeps F.keep).keeps k0).fresh _ hsb, codeAny_func ?_⟩) hk
  have hk₁ : Ext (s.heap.push ({ cls := .type "tuple", data := .seq vs.toArray } : Obj)) h₁ := fun b o e => hsb.extBut b o (Nat.ne_of_lt (Heap.lt_size e)) (Heap.get?_push_of_some _ e)
  refine h s.heap.objs.size (s.heap.push ({ cls := .type "tuple", data := .seq vs.toArray } : Obj)).objs.size h₁ ⟨hns, k0.trans hk₁, ?_⟩ ?_ ⟨hA, B₁.stays, B₁.frames⟩ X' (T.keeps F.keep)
  · show s.heap.objs.size ≤ _
    rw [Heap.size_push]; exact Nat.le_succ _
  · intro p hp
    rw [List.mem_singleton.mp hp]
    refine ⟨hk₁ _ _ (Heap.get?_push_size _ rfl), ?_, ?_⟩
    · show s.heap.objs.size ≠ _
      rw [Heap.size_push]; exact Nat.ne_of_lt (Nat.lt_succ_self _)
    · cases q : s.heap.get? s.heap.objs.size with
      | none => rfl
      | some o' => exact absurd (Heap.lt_size q) (Nat.lt_irrefl _)
end
end
section
example : True := by
  w_top off
  trivial
open _root_.PySem _root_.PySem.W _root_.PyProof.Rows _root_.PySem.Calls
set_option maxRecDepth 100000
set_option maxHeartbeats 8000000
local macro_rules | `(tactic| walk_at "call ref") => `(tactic| (k_here; k_dflt (first
  | (refine' con_use ?C ?k1 ?k2 ?k3 ?k4 ?k5 ?kK ?kd ?ku ?kp ?_; (case C => first | exact c_fspath _ _ _ | exact c_getsep _ _ _); w_left; intro r9 h9 tk9 K9 F9 N9 ho9; (first | subst ho9 | (obtain ⟨t9, ho9⟩ := ho9; subst ho9)); (try dsimp only))
  | (refine' con_use ?C ?k1 ?k2 ?k3 ?k4 ?k5 ?kK ?kd ?ku ?kp ?_; (case C => exact c_splitroot _ _ _ _ (by assumption) (by assumption) (by assumption) (by assumption)); w_left; intro r9 h9 tk9 K9 F9 N9 ho9; (obtain ⟨D9, t91, t92, t93, e9, hD9, hO9⟩ := ho9; subst e9; (have N10 := news_add (by assumption) (by assumption) K9 hD9 hO9); clear N9); (try dsimp only)))))

abbrev TS := List (Str × Tok)
noncomputable def npush (st : TS) (c : Str × Tok) : TS := if (c.1.length : Int) = 0 then st else if (c.1 == Str.ofString ".") = true then st else if (c.1 != Str.ofString "..") = true then st ++ [c] else st.dropLast
noncomputable def Kns (l : TS) (D C T : Addr) (oC oT : Obj) (i : Nat) (news : List (Addr × Obj)) : Prop := ∃ e, news = [(D, W.listOf (strValues ((l.take i).foldl npush [])).toArray e), (C, oC), (T, oT)]
theorem npush_len : ∀ (l st : TS), (l.foldl npush st).length ≤ st.length + l.length
  | [], st => Nat.le_refl _
  | c :: r, st => by
    have h := npush_len r (npush st c)
    have h2 : (npush st c).length ≤ st.length + 1 := by
      unfold npush
      split
      · omega
      · split
        · omega
        · split
          · simp
          · simp; omega
    rw [List.foldl_cons, List.length_cons]
    omega
theorem npush_nil {st : TS} {t : Str} {k : Tok} (h : (t.length : Int) = 0) : npush st (t, k) = st := by unfold npush; rw [if_pos h]
theorem npush_dot {st : TS} {t : Str} {k : Tok} (h : (t.length : Int) ≠ 0) (h2 : (t == Str.ofString ".") = true) : npush st (t, k) = st := by unfold npush; rw [if_neg h, if_pos h2]
theorem npush_add {st : TS} {t : Str} {k : Tok} (h : (t.length : Int) ≠ 0) (h2 : (t == Str.ofString ".") = false) (h3 : (t != Str.ofString "..") = true) : npush st (t, k) = st ++ [(t, k)] := by
  unfold npush; rw [if_neg h, if_neg (by rw [h2]; exact Bool.false_ne_true), if_pos h3]
theorem npush_up {st : TS} {k : Tok} : npush st (Str.ofString "..", k) = st.dropLast := by
  unfold npush; 
  have a : ¬ ((Str.ofString "..").length : Int) = 0 := by decide +kernel
  have b : ¬ (Str.ofString ".." == Str.ofString ".") = true := by decide +kernel
  have c : ¬ (Str.ofString ".." != Str.ofString "..") = true := by decide +kernel
  rw [if_neg a, if_neg b, if_neg c]
theorem kns_of {l : TS} {D C T : Addr} {oC oT : Obj} {i : Nat} {st' : TS} {its : Array Value} {e : Nat} (h : (l.take i).foldl npush [] = st') (hi : its = (strValues st').toArray) : Kns l D C T oC oT i [(D, W.listOf its e), (C, oC), (T, oT)] := ⟨e, by rw [h, hi]⟩
theorem strValues_at {l : TS} {i : Nat} {v : Value} (h : (strValues l)[i]? = some v) : ∃ c : Str × Tok, l[i]? = some c ∧ v = .str c.1 c.2 := by
  unfold strValues at h
  rw [List.getElem?_map] at h
  cases q : l[i]? with
  | none => rw [q] at h; cases h
  | some c => rw [q] at h; cases h; exact ⟨c, rfl, rfl⟩
local macro_rules | `(tactic| walk_at "call builtin:str.join") => `(tactic| (k_here; k_dflt (refine' SC.join (led_list ?N ?m) ?h ?j ?_; (case N => k_asm); (case m => k_mem); (case h | j => assumption); k_whole); intro t' k'))
local macro_rules | `(tactic| walk_at "truthy ref") => `(tactic| (k_here; k_dflt (refine' truthy_ne ?N ?m ?h0 ?hz ?_; (case N => k_asm); (case m => k_mem); (case h0 | hz => assumption); k_whole); intro tk'))
local macro_rules | `(tactic| walk_at "subscriptTail") => `(tactic| (k_here; k_dflt (refine' getLast_K ?N ?m ?k ?h0 ?hv ?_ ?hs; (case N => k_asm); (case m => k_mem); (case k => rfl); (case h0 | hv => assumption); (case hs => with_unfolding_all rfl); k_whole)))
local macro_rules | `(tactic| walk_at "call builtin:list.pop") => `(tactic| (k_here; (show wpAny _ _ (call (Value.builtin _) [Value.ref _]) _ _ _); k_dflt (refine' kl_pop ?F ?N ?e ?U ?z ?_; (case F | N => k_asm); (case U => k_upd); (case e => exact kpa_last _ _); (case z => assumption); k_whole); intro h' F' N'; (try k_sweep)))
local macro_rules | `(tactic| walk_at "exec For Name Name cons nil") => `(tactic| (k_here; (rename Fr _ _ _ _ => lF'); (with_unfolding_all refine' For_turns lF' ?_); k_whole))
theorem c_normpath (w : World) (y : List Nat) (x : Str) (tx : Tok) (hxe : x = S (47 :: y)) (hy : y ≠ []) (hh : y.head? ≠ some 47) (hx : x.length ≤ 1000)
   (hsp : (Txt.split (S y) (Str.ofString "/")).length ≤ 1000)
   (res : List Str) (hres : ∀ l : TS, l.map (·.1) = Txt.split (S y) (Str.ofString "/") → (l.foldl npush []).map (·.1) = res) (hjk : JoinOk (Str.ofString "/") res = true) (hjl : (Txt.join (Str.ofString "/") res).length ≤ 1000)
   (hdd : ∀ l : TS, l.map (·.1) = Txt.split (S y) (Str.ofString "/") → ∀ i c, l[i]? = some c → (c.1 != Str.ofString "..") = false → ∃ st' z, (l.take i).foldl npush [] = st' ++ [z] ∧ (z.1 == Str.ofString "..") = false) :
    Con w 3 143 [.str x tx] (fun _ => True) (fun _ r _ => ∃ t, r = .str (Str.ofString "/" ++ Txt.join (Str.ofString "/") res) t) := by
  have hx1 : (x.length : Int) ≠ 0 := by rw [hxe, S_len]; simp; omega
  have hy1 : (S y).length ≤ 1000 := by
    rw [hxe, S_len] at hx
    rw [S_len]
    simp at hx
    omega
  unfold Con; intros; rename_i hret
  refine wpAny_call ?_
  k_dflt (refine' enter_def (binds := [(Str.ofString "path", Value.str x tx)]) ?k1 ?k2 ?k3 ?k5 ?kA ?kF ?kK ?k6 ?k7 ?k8 ?k9 ?kB ?_ ?c2 ?c3 ?c4 ?c5; (case kA => exact rfl); (case kF => exact rfl); (case kK => assumption); (case k1 => k_asm); (case k2 => k_asm); (case k3 => k_asm); (case k5 => k_asm); (case k6 => k_is); (case k7 => k_is); (case k8 => ktr_room); (case k9 => exact BindsTo.of_eq rfl); (case c5 => decide); (case kB => exact locs rfl); (case c2 => exact rfl); (case c3 => exact rfl); (case c4 => exact rfl); k_whole; intro L' h' F' N' B' X' T'; (try dsimp only); (try k_fold))
  k_steps
  · rename List (Str × Tok) => l
    rename _ = Txt.split _ _ => hl
    rename ∀ a ∈ List.map _ _, _ => hlen
    rename Fr _ _ _ _ => hF
    rename News _ _ _ _ => hN
    have hl1 : l.length ≤ 1000 := by
      have := congrArg List.length hl
      rw [List.length_map] at this
      rw [this]
      exact hsp
    refine loop_ledger [Str.ofString "comp"] (Kns l _ _ _ _ _) rfl hF hN (by k_mem) rfl rfl ⟨0, rfl⟩ ?step ?done
    case step =>
      rintro I hI i v us news hv ⟨e, rfl⟩ hs h tk it hit F N
      k_lt hI
      obtain ⟨c, hc, rfl⟩ := strValues_at hv
      have hcl : c.1.length ≤ 1000 := Nat.le_trans (hlen c.1 (List.mem_map_of_mem (List.mem_of_getElem? hc))) hy1
      have hdd' := hdd l hl i c hc
      have hs1 : (l.take (i + 1)).foldl npush [] = npush ((l.take i).foldl npush []) c := by rw [List.take_add_one, hc]; simp
      have hst2 : ((l.take i).foldl npush []).length ≤ 1000 := by
        have h1 := npush_len (l.take i) []
        have h2 : (l.take i).length ≤ l.length := List.length_take_le' _ _
        rw [List.length_nil] at h1
        omega
      obtain ⟨ct, ck⟩ := c
      dsimp only at hcl hdd'
      generalize hst : (l.take i).foldl npush [] = st at F N hdd' hs1 hst2 ⊢
      have hll : (strValues st).toArray.size ≤ 1000 := by rw [List.size_toArray]; unfold strValues; rw [List.length_map]; exact hst2
      cases hq : (ct != Str.ofString "..") with
      | true =>
        clear hdd'
        k_steps
        all_goals first
          | exact TurnOk.intro (nm_put (by decide +kernel) nm_base) (kns_of (hs1.trans (npush_nil (by assumption))) rfl)
          | exact TurnOk.intro (nm_put (by decide +kernel) nm_base) (kns_of (hs1.trans (npush_dot (by assumption) (by assumption))) rfl)
          | exact TurnOk.intro (nm_put (by decide +kernel) nm_base) (kns_of (hs1.trans (npush_add (by assumption) (by assumption) (by assumption))) (by unfold strValues; simp))
          | trace_state
      | false =>
        obtain ⟨st', z, e1, e2⟩ := hdd' hq
        have hq' : ct = Str.ofString ".." := by simpa using hq
        subst hq'
        subst e1
        have hv1 : strValues (st' ++ [z]) = strValues st' ++ [.str z.1 z.2] := by unfold strValues; simp
        rw [hv1] at N hll
        have g1 : 0 < (strValues st' ++ [Value.str z.1 z.2]).toArray.size := by simp
        have g2 : (strValues st' ++ [Value.str z.1 z.2]).toArray.size ≤ 2 ^ 20 := Nat.le_trans hll (by decide)
        have g3 : (strValues st' ++ [Value.str z.1 z.2]).toArray[(strValues st' ++ [Value.str z.1 z.2]).toArray.size - 1]? = some (Value.str z.1 z.2) := by simp
        have g4 : (strValues st' ++ [Value.str z.1 z.2]).toArray.toList.length ≤ sizeLine := by
          rw [sizeLine_eq]
          rw [List.size_toArray] at hll
          show (strValues st' ++ [Value.str z.1 z.2]).length ≤ _
          omega
        k_steps
        all_goals try exact TurnOk.intro (nm_put (by decide +kernel) nm_base) (kns_of (hs1.trans npush_up) (by simp))
        all_goals w_report
    case done =>
      rintro us news h tk ⟨e, rfl⟩ F N
      have hst2 : ((l.take l.length).foldl npush []).length ≤ 1000 := by
        have h1 := npush_len (l.take l.length) []
        have h2 : (l.take l.length).length ≤ l.length := List.length_take_le' _ _
        rw [List.length_nil] at h1
        omega
      have hll : (strValues l).length = l.length := by unfold strValues; rw [List.length_map]
      rw [hll] at N
      have hr := hres l hl
      rw [show l.take l.length = l from List.take_length] at N
      k_steps
      exact hret _ _ _ (Fr.keep (by k_asm)) ⟨_, rfl⟩
  all_goals w_report
end
section
example : True := by
  w_top off
  trivial
open _root_.PySem _root_.PySem.W _root_.PyProof.Rows _root_.PySem.Calls
set_option maxRecDepth 100000
set_option maxHeartbeats 8000000
local macro_rules | `(tactic| walk_at "call ref") => `(tactic| (k_here; k_dflt (first
  | (refine' con_use ?C ?k1 ?k2 ?k3 ?k4 ?k5 ?kK ?kd ?ku ?kp ?_; (case C => first | exact c_fspath _ _ _ | exact c_getsep _ _ _); w_left; intro r9 h9 tk9 K9 F9 N9 ho9; (first | subst ho9 | (obtain ⟨t9, ho9⟩ := ho9; subst ho9)); (try dsimp only)))))

local macro_rules | `(tactic| walk_at "exec For Name Name cons nil") => `(tactic| (k_here; (rename Fr _ _ _ _ => lF'); (with_unfolding_all refine' For_turns lF' ?_); k_whole))
section
variable {prog : Program} {w : World} {A : Around} {E : Value → Shared → Prop} {s : Shared} {env : Env} {h₀ : Heap} {target : Expr} {body : List Stmt} {Q : Flow → Shared → Prop}
/-- a loop over a tuple of the ledger -/
theorem iter_tupL {ax : Addr} {lo : Obj} {vs : List Value} {n : Nat} {m₀ : Str → Option Value} {news₀ : List (Addr × Obj)} (J : Nat → (Str → Option Value) → List (Addr × Obj) → Prop)
    (hh : A.handled = none) (F : Fr h₀ env.locals s.heap m₀) (N : News h₀ env.locals s.heap news₀) (hm : (ax, lo) ∈ news₀) (hc : lo.cls = .type "tuple") (hd : lo.data = .seq vs.toArray n)
    (h0 : J 0 m₀ news₀)
    (step : ∀ I, (∀ p ∈ news₀, p.1 < I) → ∀ i v m news, vs[i]? = some v → J i m news → SubL [(ax, lo)] news → ∀ h tk (it : Obj), it.cls = .type "tuple_iterator" → Fr h₀ env.locals h m → News h₀ env.locals h ((I, it) :: news) →
      wpAny (model prog w) A (assign target env v) (fun _ s₂ => wpAny (model prog w) A (execs body env) (UnrPostW h₀ env.locals { s with heap := h, toks := tk } [(I, it)] (fun m' n' => SubL [(ax, lo)] n' ∧ J (i + 1) m' n') Q) E s₂) E { s with heap := h, toks := tk })
    (done : ∀ m news h tk, J vs.length m news → Fr h₀ env.locals h m → News h₀ env.locals h news → Q .next { s with heap := h, toks := tk }) :
    wpAny (model prog w) A (pyIter (.ref ax)) (fun it s₂ => TurnsAt prog w A h₀ env target body Q E it s₂) E s := by
  refine iter_tupTurns hh F N hm hc hd fun I hI => ?_
  have := items_ind (prog := prog) (w := w) (A := A) (E := E) (s := s) (env := env) (h₀ := h₀) (target := target) (body := body) (Q := Q) (ws := [(I, "tuple_iterator")]) (keep := [(ax, lo)]) (xs := vs.map Itm.val) J ?_ ?_ _ 0 m₀ news₀ rfl (Nat.zero_le _) h0 ⟨hm, trivial⟩
  · simpa using this
  · intro i a m news ha hJ hs v h tk hv F
    rw [List.getElem?_map] at ha
    cases q : vs[i]? with
    | none => rw [q] at ha; cases ha
    | some v' =>
      rw [q] at ha
      cases ha
      have e : v = v' := hv
      subst e
      exact fun it hit N => step I hI i v m news q hJ hs h tk it hit F N
  · intro m news h tk hJ
    rw [List.length_map] at hJ
    exact done m news h tk hJ
end
noncomputable def jstep (p b : Str) : Str := if Txt.endswith p (Str.ofString "/") = true then p ++ b else p ++ (Str.ofString "/" ++ b)
theorem Str.length_app (a b : Str) : (a ++ b).length = a.length + b.length := by
  rw [S_of a, S_of b, S_append, S_len, S_len, S_len, List.length_append]
theorem jstep_len (p b : Str) : (jstep p b).length ≤ p.length + 1 + b.length := by
  unfold jstep
  have e : (Str.ofString "/").length = 1 := by decide +kernel
  split
  · rw [Str.length_app]; omega
  · rw [Str.length_app, Str.length_app, e]; omega
theorem jstep_pos (p b : Str) (h : p.length ≠ 0) : (jstep p b).length ≠ 0 := by
  unfold jstep
  split
  · rw [Str.length_app]; omega
  · rw [Str.length_app]; omega
theorem jfold_len : ∀ (l : List (Str × Tok)) (x : Str), (∀ b ∈ l, b.1.length ≤ 1000) → x.length ≠ 0 → (l.foldl (fun p b => jstep p b.1) x).length ≤ x.length + 1001 * l.length ∧ (l.foldl (fun p b => jstep p b.1) x).length ≠ 0
  | [], x, _, h0 => ⟨by simp, h0⟩
  | b :: r, x, h, h0 => by
    have h1 := jfold_len r (jstep x b.1) (fun c hc => h c (List.mem_cons_of_mem _ hc)) (jstep_pos _ _ h0)
    have h2 := jstep_len x b.1
    have h3 := h b (List.mem_cons_self ..)
    refine ⟨?_, h1.2⟩
    have := h1.1
    simp only [List.foldl_cons, List.length_cons] at this ⊢
    omega
/-- the path as it stands after i parts -/
noncomputable def jcur (l : List (Str × Tok)) (x : Str) (i : Nat) : Str := (l.take i).foldl (fun p b => jstep p b.1) x
noncomputable def Jm (l : List (Str × Tok)) (x : Str) (mb : Str → Option Value) (news₀ : List (Addr × Obj)) (i : Nat) (m : Str → Option Value) (news : List (Addr × Obj)) : Prop :=
  ∃ us t, m = over [Str.ofString "b"] us (fun y => if y = Str.ofString "path" then some (.str (jcur l x i) t) else mb y) ∧ news = news₀
theorem jcur_next {l : List (Str × Tok)} {x : Str} {i : Nat} {b : Str} {t : Tok} (h : l[i]? = some (b, t)) : jcur l x (i + 1) = jstep (jcur l x i) b := by
  unfold jcur
  rw [List.take_add_one, h, List.foldl_append]; rfl
theorem jm_zero {l : List (Str × Tok)} {x : Str} {t : Tok} {mb : Str → Option Value} {news : List (Addr × Obj)} : Jm l x mb news 0 (fun y => if y = Str.ofString "path" then some (.str x t) else mb y) news := by
  obtain ⟨us, h⟩ := over_of (names := [Str.ofString "b"]) (m := fun y => if y = Str.ofString "path" then some (.str x t) else mb y) (m₀ := fun y => if y = Str.ofString "path" then some (.str x t) else mb y) fun _ _ => rfl
  exact ⟨us, t, h, rfl⟩
theorem jm_next {l : List (Str × Tok)} {x n : Str} {t : Tok} {i : Nat} {us mb : Str → Option Value} {vb vc o : Option Value} {news : List (Addr × Obj)} (h : jcur l x (i + 1) = n) :
    Jm l x mb news (i + 1) (fun y => if y = Str.ofString "path" then some (.str n t) else if y = Str.ofString "b" then vb else if y = Str.ofString "b" then vc else over [Str.ofString "b"] us (fun y => if y = Str.ofString "path" then o else mb y) y) news := by
  obtain ⟨us', h'⟩ := over_of (names := [Str.ofString "b"]) (m := fun y => if y = Str.ofString "path" then some (.str n t) else if y = Str.ofString "b" then vb else if y = Str.ofString "b" then vc else over [Str.ofString "b"] us (fun y => if y = Str.ofString "path" then o else mb y) y) (m₀ := fun y => if y = Str.ofString "path" then some (.str (jcur l x (i + 1)) t) else mb y) fun z hz => by
    have hb : z ≠ Str.ofString "b" := fun e => hz (e ▸ List.mem_cons_self ..)
    by_cases hp : z = Str.ofString "path"
    · rw [if_pos hp, if_pos hp, h]
    · rw [if_neg hp, if_neg hp, if_neg hb, if_neg hb, over_out hz, if_neg hp]
  exact ⟨us', t, h', rfl⟩
theorem jstr_at {l : List (Str × Tok)} {i : Nat} {v : Value} (h : (strValues l)[i]? = some v) : ∃ b t, l[i]? = some (b, t) ∧ v = .str b t := by
  unfold strValues at h
  rw [List.getElem?_map] at h
  cases q : l[i]? with
  | none => rw [q] at h; cases h
  | some c => rw [q] at h; cases h; exact ⟨c.1, c.2, rfl, rfl⟩
theorem c_joinF (w : World) (x b1 b2 b3 b4 : Str) (tx t1 t2 t3 t4 : Tok) (hx : x.length ≤ 1000) (hx0 : x.length ≠ 0) (hb : ∀ b ∈ [(b1, t1), (b2, t2), (b3, t3), (b4, t4)], b.1.length ≤ 1000 ∧ Txt.startswith b.1 (Str.ofString "/") = false) :
    Con w 2 122 [.str x tx, .str b1 t1, .str b2 t2, .str b3 t3, .str b4 t4] (fun _ => True) (fun _ r _ => ∃ t, r = .str (jcur [(b1, t1), (b2, t2), (b3, t3), (b4, t4)] x 4) t) := by
  unfold Con; intros; rename_i hret
  refine wpAny_call ?_
  k_dflt (refine' enter_rest (binds := fun D => [(Str.ofString "a", Value.str x tx), (Str.ofString "p", Value.ref D)]) ?k1 ?k2 ?k3 ?k5 ?kA ?kF ?kK ?k6 ?k7 ?k8 ?kV ?kP ?kG ?kB ?_ ?c2 ?c3 ?c4 ?c5; (case kA => exact rfl); (case kF => exact rfl); (case kK => assumption); (case k1 => k_asm); (case k2 => k_asm); (case k3 => k_asm); (case k5 => k_asm); (case k6 => k_is); (case k7 => k_is); (case k8 => ktr_room); (case kV => kl_lit); (case kP => exact rfl); (case kG => exact fun _ => rfl); (case kB => exact fun _ => locs rfl); (case c5 => decide); (case c2 => exact rfl); (case c3 => exact rfl); (case c4 => exact rfl); k_whole; intro D' L' h' F' N' B' X' T'; (try dsimp only); (try k_fold))
  change News _ _ _ [(D', { cls := .type "tuple", data := .seq (strValues [(b1, t1), (b2, t2), (b3, t3), (b4, t4)]).toArray })] at N'
  generalize hl : [(b1, t1), (b2, t2), (b3, t3), (b4, t4)] = l at hb hret N'
  have hl4 : l.length = 4 := by rw [← hl]; rfl
  clear hl
  k_steps
  rename Fr _ _ _ _ => hF
  rename News _ _ _ _ => hN
  refine iter_tupL (Jm l x _ _) rfl hF hN (by k_mem) rfl rfl jm_zero ?step ?done
  case step =>
    rintro I hI i v m news hv ⟨us, t, rfl, rfl⟩ hs h tk it hit F N
    k_lt hI
    obtain ⟨b, tb, hc, rfl⟩ := jstr_at hv
    obtain ⟨hcl, hcs⟩ := hb _ (List.mem_of_getElem? hc)
    have hi4 : i < 4 := hl4 ▸ (List.getElem?_eq_some_iff.mp hc).1
    have hcur := jfold_len (l.take i) x (fun b h => (hb b (List.mem_of_mem_take h)).1) hx0
    have hlen : (jcur l x i).length ≤ 9000 := by
      have h1 := hcur.1
      rw [List.length_take] at h1
      unfold jcur; omega
    have hpos : (jcur l x i).length ≠ 0 := hcur.2
    dsimp only at hcl hcs
    have hnx : jcur l x (i + 1) = jstep (jcur l x i) b := jcur_next hc
    clear hcur hF hN hb hv
    generalize jcur l x i = p at F hlen hpos hnx
    k_steps
    · exact jm_next (hnx.trans (if_pos (by assumption)))
    · refine jm_next (hnx.trans (if_neg ?_))
      rename _ = false => hq
      rw [hq]; decide
    · exfalso; omega
  case done =>
    rintro m news h tk ⟨us, t, rfl, rfl⟩ F N
    clear hF hN
    k_steps
    dsimp only
    exact hret _ _ _ (Fr.keep (by k_asm)) ⟨_, congrArg (fun n => Value.str (jcur l x n) _) ((List.length_map ..).trans hl4)⟩
theorem jcur_eq (x : Str) (b1 b2 b3 b4 : Str) (t1 t2 t3 t4 : Tok) : jcur [(b1, t1), (b2, t2), (b3, t3), (b4, t4)] x 4 = jstep (jstep (jstep (jstep x b1) b2) b3) b4 := rfl
theorem jstep_no {l b : List Nat} {s : Str} (hs : s = S b) (h : (l.getLast? == some 47) = false) : jstep (S l) s = S (l ++ 47 :: b) := by
  subst hs
  unfold jstep
  rw [slash_is, ends_one, h, if_neg (by decide), S_append, S_append]; rfl
theorem jstep_at {b : List Nat} {s : Str} (hs : s = S b) : jstep (S [47]) s = S (47 :: b) := by
  subst hs
  unfold jstep
  rw [slash_is, ends_one, if_pos (by decide), S_append]; rfl
theorem j_one : Str.ofString "." = S [46] := by decide +kernel
theorem j_x : Str.ofString "x" = S [120] := by decide +kernel
theorem j_two : Str.ofString ".." = S [46, 46] := by decide +kernel
theorem last_app (l : List Nat) {b : List Nat} {c : Nat} (h : b.getLast? = some c) (hc : c ≠ 47) : ((l ++ 47 :: b).getLast? == some 47) = false := by
  rw [List.getLast?_append]
  cases b with
  | nil => cases h
  | cons d r => rw [List.getLast?_cons_cons, h]; simpa using hc
theorem c_join (w : World) (x y : Str) (tx t1 t2 t3 ty : Tok) (hx : x.length ≤ 1000) (hx0 : x.length ≠ 0) (hy : y.length ≤ 1000) (he : Txt.endswith x (Str.ofString "/") = false) (hs : Txt.startswith y (Str.ofString "/") = false) : Con w 2 122 [.str x tx, .str (Str.ofString ".") t1, .str (Str.ofString "x") t2, .str (Str.ofString "..") t3, .str y ty] (fun _ => True) (fun _ r _ => ∃ t, r = .str (x ++ S [47, 46, 47, 120, 47, 46, 46, 47] ++ y) t) := by
  have := c_joinF w x (Str.ofString ".") (Str.ofString "x") (Str.ofString "..") y tx t1 t2 t3 ty hx hx0 (by
    simp only [List.mem_cons, List.not_mem_nil, or_false, forall_eq_or_imp, forall_eq]
    exact ⟨by decide +kernel, by decide +kernel, by decide +kernel, hy, hs⟩)
  rw [slash_is, S_of x, ends_one] at he
  rw [jcur_eq, S_of x, jstep_no j_one he, jstep_no j_x (last_app _ rfl (by decide)), jstep_no j_two (last_app _ rfl (by decide)), jstep_no (S_of y) (last_app _ rfl (by decide))] at this
  rw [S_of x, S_of y, S_append, S_append]
  rw [S_of y] at this
  simpa only [List.append_assoc, List.cons_append, List.nil_append] using this
theorem c_join0 (w : World) (y : Str) (tx t1 t2 t3 ty : Tok) (hy : y.length ≤ 1000) (hs : Txt.startswith y (Str.ofString "/") = false) : Con w 2 122 [.str (Str.ofString "/") tx, .str (Str.ofString ".") t1, .str (Str.ofString "x") t2, .str (Str.ofString "..") t3, .str y ty] (fun _ => True) (fun _ r _ => ∃ t, r = .str (S [47, 46, 47, 120, 47, 46, 46, 47] ++ y) t) := by
  have := c_joinF w (Str.ofString "/") (Str.ofString ".") (Str.ofString "x") (Str.ofString "..") y tx t1 t2 t3 ty (by decide +kernel) (by decide +kernel) (by
    simp only [List.mem_cons, List.not_mem_nil, or_false, forall_eq_or_imp, forall_eq]
    exact ⟨by decide +kernel, by decide +kernel, by decide +kernel, hy, hs⟩)
  rw [jcur_eq] at this
  rw [S_of y, S_append]
  have e : jstep (jstep (jstep (jstep (Str.ofString "/") (Str.ofString ".")) (Str.ofString "x")) (Str.ofString "..")) y = S ([47, 46, 47, 120, 47, 46, 46, 47] ++ y.cps.toList) := by
    rw [slash_is, jstep_at j_one, jstep_no j_x (by decide), jstep_no j_two (by decide), jstep_no (S_of y) (by decide)]; rfl
  rw [e, S_of y] at this
  exact this
end
section
example : True := by
  w_top off
  trivial
open _root_.PySem _root_.PySem.W _root_.PyProof.Rows _root_.PySem.Calls
set_option maxRecDepth 100000
set_option maxHeartbeats 8000000

theorem c_imode (w : World) (x : Int) (tx : Tok) : Con w 1 150 [.int x tx] (fun _ => True) (fun _ r _ => ∃ t, r = .int (Builtin.bitAnd x 4095) t) := by
  unfold Con; intros; rename_i hret
  refine wpAny_call ?_
  k_dflt (refine' enter_def (binds := [(Str.ofString "mode", Value.int x tx)]) ?k1 ?k2 ?k3 ?k5 ?kA ?kF ?kK ?k6 ?k7 ?k8 ?k9 ?kB ?_ ?c2 ?c3 ?c4 ?c5; (case kA => exact rfl); (case kF => exact rfl); (case kK => assumption); (case k1 => k_asm); (case k2 => k_asm); (case k3 => k_asm); (case k5 => k_asm); (case k6 => k_is); (case k7 => k_is); (case k8 => ktr_room); (case k9 => exact BindsTo.of_eq rfl); (case c5 => decide); (case kB => exact locs rfl); (case c2 => exact rfl); (case c3 => exact rfl); (case c4 => exact rfl); k_whole; intro L' h' F' N' B' X' T'; (try dsimp only); (try k_fold))
  k_steps
  exact hret _ _ _ (Fr.keep (by k_asm)) ⟨_, rfl⟩
theorem c_ifmt (w : World) (x : Int) (tx : Tok) : Con w 1 157 [.int x tx] (fun _ => True) (fun _ r _ => ∃ t, r = .int (Builtin.bitAnd x 61440) t) := by
  unfold Con; intros; rename_i hret
  refine wpAny_call ?_
  k_dflt (refine' enter_def (binds := [(Str.ofString "mode", Value.int x tx)]) ?k1 ?k2 ?k3 ?k5 ?kA ?kF ?kK ?k6 ?k7 ?k8 ?k9 ?kB ?_ ?c2 ?c3 ?c4 ?c5; (case kA => exact rfl); (case kF => exact rfl); (case kK => assumption); (case k1 => k_asm); (case k2 => k_asm); (case k3 => k_asm); (case k5 => k_asm); (case k6 => k_is); (case k7 => k_is); (case k8 => ktr_room); (case k9 => exact BindsTo.of_eq rfl); (case c5 => decide); (case kB => exact locs rfl); (case c2 => exact rfl); (case c3 => exact rfl); (case c4 => exact rfl); k_whole; intro L' h' F' N' B' X' T'; (try dsimp only); (try k_fold))
  k_steps
  exact hret _ _ _ (Fr.keep (by k_asm)) ⟨_, rfl⟩
local macro_rules | `(tactic| walk_at "call ref") => `(tactic| (k_here; k_dflt (first
  | (refine' con_use ?C ?k1 ?k2 ?k3 ?k4 ?k5 ?kK ?kd ?ku ?kp ?_; (case C => exact c_ifmt _ _ _); w_left; intro r9 h9 tk9 K9 F9 N9 ho9; (obtain ⟨t9, ho9⟩ := ho9; subst ho9); (try dsimp only)))))
theorem c_isdir (w : World) (x : Int) (tx : Tok) : Con w 2 164 [.int x tx] (fun _ => True) (fun _ r _ => r = .bool (decide (Builtin.bitAnd x 61440 = 16384))) := by
  unfold Con; intros; rename_i hret
  refine wpAny_call ?_
  k_dflt (refine' enter_def (binds := [(Str.ofString "mode", Value.int x tx)]) ?k1 ?k2 ?k3 ?k5 ?kA ?kF ?kK ?k6 ?k7 ?k8 ?k9 ?kB ?_ ?c2 ?c3 ?c4 ?c5; (case kA => exact rfl); (case kF => exact rfl); (case kK => assumption); (case k1 => k_asm); (case k2 => k_asm); (case k3 => k_asm); (case k5 => k_asm); (case k6 => k_is); (case k7 => k_is); (case k8 => ktr_room); (case k9 => exact BindsTo.of_eq rfl); (case c5 => decide); (case kB => exact locs rfl); (case c2 => exact rfl); (case c3 => exact rfl); (case c4 => exact rfl); k_whole; intro L' h' F' N' B' X' T'; (try dsimp only); (try k_fold))
  k_steps
  exact hret _ _ _ (Fr.keep (by k_asm)) rfl
theorem c_isreg (w : World) (x : Int) (tx : Tok) : Con w 2 171 [.int x tx] (fun _ => True) (fun _ r _ => r = .bool (decide (Builtin.bitAnd x 61440 = 32768))) := by
  unfold Con; intros; rename_i hret
  refine wpAny_call ?_
  k_dflt (refine' enter_def (binds := [(Str.ofString "mode", Value.int x tx)]) ?k1 ?k2 ?k3 ?k5 ?kA ?kF ?kK ?k6 ?k7 ?k8 ?k9 ?kB ?_ ?c2 ?c3 ?c4 ?c5; (case kA => exact rfl); (case kF => exact rfl); (case kK => assumption); (case k1 => k_asm); (case k2 => k_asm); (case k3 => k_asm); (case k5 => k_asm); (case k6 => k_is); (case k7 => k_is); (case k8 => ktr_room); (case k9 => exact BindsTo.of_eq rfl); (case c5 => decide); (case kB => exact locs rfl); (case c2 => exact rfl); (case c3 => exact rfl); (case c4 => exact rfl); k_whole; intro L' h' F' N' B' X' T'; (try dsimp only); (try k_fold))
  k_steps
  exact hret _ _ _ (Fr.keep (by k_asm)) rfl
theorem c_islnk (w : World) (x : Int) (tx : Tok) : Con w 2 178 [.int x tx] (fun _ => True) (fun _ r _ => r = .bool (decide (Builtin.bitAnd x 61440 = 40960))) := by
  unfold Con; intros; rename_i hret
  refine wpAny_call ?_
  k_dflt (refine' enter_def (binds := [(Str.ofString "mode", Value.int x tx)]) ?k1 ?k2 ?k3 ?k5 ?kA ?kF ?kK ?k6 ?k7 ?k8 ?k9 ?kB ?_ ?c2 ?c3 ?c4 ?c5; (case kA => exact rfl); (case kF => exact rfl); (case kK => assumption); (case k1 => k_asm); (case k2 => k_asm); (case k3 => k_asm); (case k5 => k_asm); (case k6 => k_is); (case k7 => k_is); (case k8 => ktr_room); (case k9 => exact BindsTo.of_eq rfl); (case c5 => decide); (case kB => exact locs rfl); (case c2 => exact rfl); (case c3 => exact rfl); (case c4 => exact rfl); k_whole; intro L' h' F' N' B' X' T'; (try dsimp only); (try k_fold))
  k_steps
  exact hret _ _ _ (Fr.keep (by k_asm)) rfl
end
section
example : True := by
  w_top off
  trivial
open _root_.PySem _root_.PySem.W _root_.PyProof.Rows _root_.PySem.Calls
set_option maxRecDepth 100000
set_option maxHeartbeats 8000000
theorem hide2 {prog : Program} {w : World} {A : Around} {target : Expr} {env : Env} {v : Value} {body : List Stmt} {Q : Flow → Shared → Prop} {E : Value → Shared → Prop} {s : Shared}
    (h : ∀ Q' : Flow → Shared → Prop, (∀ f s', Q f s' → Q' f s') → wpAny (model prog w) A (assign target env v) (fun _ s₂ => wpAny (model prog w) A (execs body env) Q' E s₂) E s) :
    wpAny (model prog w) A (assign target env v) (fun _ s₂ => wpAny (model prog w) A (execs body env) Q E s₂) E s := h Q fun _ _ x => x
theorem hide1 {prog : Program} {w : World} {A : Around} {env : Env} {body : List Stmt} {Q : Flow → Shared → Prop} {E : Value → Shared → Prop} {s : Shared}
    (h : ∀ Q' : Flow → Shared → Prop, (∀ f s', Q f s' → Q' f s') → wpAny (model prog w) A (execs body env) Q' E s) : wpAny (model prog w) A (execs body env) Q E s := h Q fun _ _ x => x
local macro_rules | `(tactic| walk_at "call ref") => `(tactic| (k_here; k_dflt (first
  | (refine' con_use ?C ?k1 ?k2 ?k3 ?k4 ?k5 ?kK ?kd ?ku ?kp ?_; (case C => exact c_ifmt _ _ _); w_left; intro r9 h9 tk9 K9 F9 N9 ho9; (obtain ⟨t9, ho9⟩ := ho9; subst ho9); (try dsimp only)))))
noncomputable def fmL (x : Int) : List Str := [
  (if Builtin.bitAnd x 61440 = 40960 then Str.ofString "l" else if Builtin.bitAnd x 61440 = 49152 then Str.ofString "s" else if Builtin.bitAnd x 61440 = 32768 then Str.ofString "-" else if Builtin.bitAnd x 61440 = 24576 then Str.ofString "b" else if Builtin.bitAnd x 61440 = 16384 then Str.ofString "d" else if Builtin.bitAnd x 61440 = 8192 then Str.ofString "c" else if Builtin.bitAnd x 61440 = 4096 then Str.ofString "p" else Str.ofString "?"),
  (if Builtin.bitAnd x 256 = 256 then Str.ofString "r" else Str.ofString "-"),
  (if Builtin.bitAnd x 128 = 128 then Str.ofString "w" else Str.ofString "-"),
  (if Builtin.bitAnd x 2112 = 2112 then Str.ofString "s" else if Builtin.bitAnd x 2048 = 2048 then Str.ofString "S" else if Builtin.bitAnd x 64 = 64 then Str.ofString "x" else Str.ofString "-"),
  (if Builtin.bitAnd x 32 = 32 then Str.ofString "r" else Str.ofString "-"),
  (if Builtin.bitAnd x 16 = 16 then Str.ofString "w" else Str.ofString "-"),
  (if Builtin.bitAnd x 1032 = 1032 then Str.ofString "s" else if Builtin.bitAnd x 1024 = 1024 then Str.ofString "S" else if Builtin.bitAnd x 8 = 8 then Str.ofString "x" else Str.ofString "-"),
  (if Builtin.bitAnd x 4 = 4 then Str.ofString "r" else Str.ofString "-"),
  (if Builtin.bitAnd x 2 = 2 then Str.ofString "w" else Str.ofString "-"),
  (if Builtin.bitAnd x 513 = 513 then Str.ofString "t" else if Builtin.bitAnd x 512 = 512 then Str.ofString "T" else if Builtin.bitAnd x 1 = 1 then Str.ofString "x" else Str.ofString "-")]
noncomputable def Kf (x : Int) (D : Addr) (i : Nat) (news : List (Addr × Obj)) : Prop := ∃ (e : Nat) (st : List (Str × Tok)), (D, W.listOf (strValues st).toArray e) ∈ news ∧ st.map (·.1) = (fmL x).take i
noncomputable def fmT : List (List (Int × Str)) := [[(40960, Str.ofString "l"), (49152, Str.ofString "s"), (32768, Str.ofString "-"), (24576, Str.ofString "b"), (16384, Str.ofString "d"), (8192, Str.ofString "c"), (4096, Str.ofString "p")], [(256, Str.ofString "r")], [(128, Str.ofString "w")], [(2112, Str.ofString "s"), (2048, Str.ofString "S"), (64, Str.ofString "x")], [(32, Str.ofString "r")], [(16, Str.ofString "w")], [(1032, Str.ofString "s"), (1024, Str.ofString "S"), (8, Str.ofString "x")], [(4, Str.ofString "r")], [(2, Str.ofString "w")], [(513, Str.ofString "t"), (512, Str.ofString "T"), (1, Str.ofString "x")]]
noncomputable def pick (f : Int → Int) (d : Str) : List (Int × Str) → Str
  | [] => d
  | (b, c) :: r => if f b = b then c else pick f d r
theorem Fl.tail {f : Int → Int} {b0 : Int} {bs : List Int} {j : Nat} (h : Fl f (b0 :: bs) (j + 1)) : Fl f bs j := fun b hb => h b (List.mem_cons_of_mem _ hb)
theorem pick_hit {f : Int → Int} {d : Str} : ∀ {r : List (Int × Str)} {j : Nat} {b : Int} {c : Str}, Fl f (r.map (·.1)) j → r[j]? = some (b, c) → f b = b → pick f d r = c
  | [], _, _, _, _, e, _ => nomatch e
  | (_, _) :: _, 0, _, _, _, e, hb => by
    cases e
    exact if_pos hb
  | (b0, c0) :: r, j + 1, b, c, hf, e, hb => (if_neg (hf b0 (List.mem_cons_self ..))).trans (pick_hit hf.tail e hb)
theorem pick_none {f : Int → Int} {d : Str} : ∀ {r : List (Int × Str)}, Fl f (r.map (·.1)) r.length → pick f d r = d
  | [], _ => rfl
  | (b0, c0) :: r, hf => (if_neg (hf b0 (List.mem_cons_self ..))).trans (pick_none hf.tail)
noncomputable def ff (x : Int) (i : Nat) (b : Int) : Int := if (i : Int) = 0 then Builtin.bitAnd x 61440 else Builtin.bitAnd x b
noncomputable def dd (i : Nat) : Str := if (i : Int) = 0 then Str.ofString "?" else Str.ofString "-"
theorem fmL_get (x : Int) {i : Nat} {row : List (Int × Str)} (h : fmT[i]? = some row) : (fmL x)[i]? = some (pick (ff x i) (dd i) row) := by
  have hi : i < 10 := (List.getElem?_eq_some_iff.mp h).1
  obtain rfl | rfl | rfl | rfl | rfl | rfl | rfl | rfl | rfl | rfl : i = 0 ∨ i = 1 ∨ i = 2 ∨ i = 3 ∨ i = 4 ∨ i = 5 ∨ i = 6 ∨ i = 7 ∨ i = 8 ∨ i = 9 := by omega
  all_goals
    obtain rfl := Option.some.inj h
    rfl
theorem ff_0 {x b : Int} {i : Nat} (h : (i : Int) = 0) : ff x i b = Builtin.bitAnd x 61440 := if_pos h
theorem ff_1 {x b : Int} {i : Nat} (h : (i : Int) ≠ 0) : ff x i b = Builtin.bitAnd x b := if_neg h
theorem dd_0 {i : Nat} (h : (i : Int) = 0) : dd i = Str.ofString "?" := if_pos h
theorem dd_1 {i : Nat} (h : (i : Int) ≠ 0) : dd i = Str.ofString "-" := if_neg h
noncomputable def RowOk (K : Frag) : List Value → List (Int × Str) → Prop
  | [], [] => True
  | e :: es, (b, c) :: r => (∃ (ea : Addr) (eo : Obj) (tb tc : Tok) (m : Nat), e = .ref ea ∧ K.lookup ea = some eo ∧ eo.cls = .type "tuple" ∧ eo.data = .seq #[.int b tb, .str c tc] m) ∧ RowOk K es r
  | _, _ => False
theorem RowOk.len {K : Frag} : ∀ {es : List Value} {r : List (Int × Str)}, RowOk K es r → es.length = r.length
  | [], [], _ => rfl
  | _ :: _, (_, _) :: _, h => congrArg (· + 1) (RowOk.len h.2)
theorem RowOk.get {K : Frag} : ∀ {es : List Value} {r : List (Int × Str)} {j : Nat} {e : Value}, RowOk K es r → es[j]? = some e → ∃ (b : Int) (c : Str) (ea : Addr) (eo : Obj) (tb tc : Tok) (m : Nat), r[j]? = some (b, c) ∧ e = .ref ea ∧ K.lookup ea = some eo ∧ eo.cls = .type "tuple" ∧ eo.data = .seq #[.int b tb, .str c tc] m
  | [], [], _, _, _, h => nomatch h
  | _ :: _, (b, c) :: _, 0, _, ⟨⟨ea, eo, tb, tc, m, hh⟩, _⟩, h => by cases h; exact ⟨b, c, ea, eo, tb, tc, m, rfl, hh⟩
  | _ :: es, (b, c) :: r, j + 1, e, ⟨_, hh⟩, h => RowOk.get (j := j) hh h
theorem fm_row (w : World) {i : Nat} {v : Value} (hv : [Value.ref 186, Value.ref 188, Value.ref 190, Value.ref 194, Value.ref 196, Value.ref 198, Value.ref 202, Value.ref 204, Value.ref 206, Value.ref 210][i]? = some v) :
    ∃ (a : Addr) (lo : Obj) (es : List Value) (n : Nat) (row : List (Int × Str)), fmT[i]? = some row ∧ v = .ref a ∧ (hd.heap_1 w.params).lookup a = some lo ∧ lo.cls = .type "tuple" ∧ lo.data = .seq es.toArray n ∧ RowOk (hd.heap_1 w.params) es row := by
  have hi : i < 10 := (List.getElem?_eq_some_iff.mp hv).1
  obtain rfl | rfl | rfl | rfl | rfl | rfl | rfl | rfl | rfl | rfl : i = 0 ∨ i = 1 ∨ i = 2 ∨ i = 3 ∨ i = 4 ∨ i = 5 ∨ i = 6 ∨ i = 7 ∨ i = 8 ∨ i = 9 := by omega
  all_goals
    obtain rfl := Option.some.inj hv
    refine ⟨_, _, _, _, _, rfl, rfl, by k_is, rfl, rfl, ?_⟩
    repeat' refine And.intro ⟨_, _, _, _, _, rfl, by k_is, rfl, rfl⟩ ?_
    trivial
theorem kf_next {x : Int} {D : Addr} {i : Nat} {e : Nat} {st : List (Str × Tok)} {c : Str} {t : Tok} {news : List (Addr × Obj)} (h : st.map (·.1) = (fmL x).take i) (hm : (D, W.listOf ((strValues st).toArray.push (.str c t)) e) ∈ news) (hc : (fmL x)[i]? = some c) : Kf x D (i + 1) news :=
  ⟨e, st ++ [(c, t)], by
    have : (strValues (st ++ [(c, t)])).toArray = (strValues st).toArray.push (.str c t) := by unfold strValues; simp
    rw [this]; exact hm, by rw [List.take_add_one, hc]; simp [h]⟩
theorem fm_one (x : Int) : ∀ c ∈ fmL x, c.length ≤ 1 := by
  intro c hc
  unfold fmL at hc
  simp only [List.mem_cons, List.not_mem_nil, or_false] at hc
  rcases hc with rfl | rfl | rfl | rfl | rfl | rfl | rfl | rfl | rfl | rfl <;> (repeat' split) <;> decide +kernel
theorem fm_join (x : Int) : JoinOk (Str.ofString "") (fmL x) = true := join_few (a := 1) (fm_one x) (by
  show 10 * 1 + 10 * (Str.ofString "").length ≤ 100000
  decide +kernel)
local macro_rules | `(tactic| walk_at "call builtin:str.join") => `(tactic| (k_here; k_dflt (refine' SC.join (led_list ?N ?m) ?h ?j ?_; (case N => k_asm); (case m => k_mem); (case h | j => assumption); k_whole); intro t' k'))
local macro_rules | `(tactic| walk_at "exec For Tuple Call cons nil") => `(tactic| (k_here; (rename Fr _ _ _ _ => lF'); (with_unfolding_all refine' For_turns lF' ?_); k_whole))
local macro_rules | `(tactic| walk_at "exec For Tuple Name cons cons") => `(tactic| (k_here; (with_unfolding_all refine' For_else ?_); k_whole))
theorem c_filemode (w : World) (x : Int) (tx : Tok) : Con w 3 218 [.int x tx] (fun _ => True) (fun _ r _ => ∃ t, r = .str (Txt.join (Str.ofString "") (fmL x)) t) := by
  unfold Con; intros; rename_i hret
  refine wpAny_call ?_
  k_dflt (refine' enter_def (binds := [(Str.ofString "mode", Value.int x tx)]) ?k1 ?k2 ?k3 ?k5 ?kA ?kF ?kK ?k6 ?k7 ?k8 ?k9 ?kB ?_ ?c2 ?c3 ?c4 ?c5; (case kA => exact rfl); (case kF => exact rfl); (case kK => assumption); (case k1 => k_asm); (case k2 => k_asm); (case k3 => k_asm); (case k5 => k_asm); (case k6 => k_is); (case k7 => k_is); (case k8 => ktr_room); (case k9 => exact BindsTo.of_eq rfl); (case c5 => decide); (case kB => exact locs rfl); (case c2 => exact rfl); (case c3 => exact rfl); (case c4 => exact rfl); k_whole; intro L' h' F' N' B' X' T'; (try dsimp only); (try k_fold))
  k_steps
  rename Fr _ _ _ _ => hF
  rename News _ _ _ _ => hN
  rename Frag.In _ _ => hX
  refine loop_enumK [Str.ofString "index", Str.ofString "table", Str.ofString "bit", Str.ofString "char"] (Kf x _) rfl hF hN hX (by k_is) rfl rfl ⟨_, [], by k_mem, rfl⟩ ?step ?done
  case step =>
    rintro I hI i v us news hv ⟨e, st, hm, hst⟩ h tk T t ie it hie hit hT F N0
    have N : News _ _ h [(I + 1, ie), (I, it), (_, W.listOf (strValues st).toArray e)] := news_sub N0 (by
      intro p hp
      simp only [List.mem_cons, List.not_mem_nil, or_false] at hp
      rcases hp with rfl | rfl | rfl
      · simp
      · simp
      · exact List.mem_cons_of_mem _ (List.mem_cons_of_mem _ hm))
    clear N0 hm
    k_lt hI
    have hll : (strValues st).toArray.size ≤ 1000 := by
      have hi : i < 10 := (List.getElem?_eq_some_iff.mp hv).1
      have := congrArg List.length hst
      rw [List.length_map, List.length_take] at this
      rw [List.size_toArray]; unfold strValues; rw [List.length_map]; omega
    obtain ⟨a, lo, es, n, row, hrow, rfl, hlk, hcl, hda, hrk⟩ := fm_row w hv
    have hget := fmL_get x hrow
    clear hv hrow
    k_steps
    rename Fr _ _ _ _ => hF
    rename News _ _ _ _ => hN
    refine else_tupK [Str.ofString "bit", Str.ofString "char"] (fun j n => n = _ ∧ Fl (ff x i) (row.map (·.1)) j) rfl hF hN (by assumption) hlk hcl hda ⟨rfl, Fl.zero⟩ ?step2 ?done2
    case step2 =>
      rintro I2 hI2 j v2 us2 news2 hv2 ⟨rfl, hfl⟩ h2 tk2 it2 hit2 F2 N2
      refine hide2 ?_
      intro QQ hQQ
      k_lt hI2
      obtain ⟨b, c, ea, eo, tb, tc, mm, hbc, rfl, hlk2, hcl2, hda2⟩ := hrk.get hv2
      have hT2 : IsTup h2 ea #[.int b tb, .str c tc] := ⟨eo, F2.keep _ _ ((by assumption : Frag.In _ _) _ _ hlk2), hcl2, mm, hda2⟩
      clear hlk2 hcl2 hda2 hv2 hcl hda hlk
      k_steps
      all_goals try (refine hQQ _ _ ?_; k_steps)
      all_goals first
        | exact TurnOk.intro (nm_put (by decide +kernel) (nm_put (by decide +kernel) nm_base)) ⟨rfl, hfl.next (by rw [List.getElem?_map, hbc]; rfl) (by first | exact fun e => absurd ((ff_0 (by assumption)).symm.trans e) (by assumption) | exact fun e => absurd ((ff_1 (by assumption)).symm.trans e) (by assumption))⟩
        | (refine TurnOk.intro (nm_put (by decide +kernel) (nm_put (by decide +kernel) (nm_over (by decide +kernel) (nm_put (by decide +kernel) (nm_put (by decide +kernel) nm_base))))) (kf_next hst (by k_mem) (hget.trans (congrArg some (pick_hit hfl hbc (by first | exact (ff_0 (by assumption)).trans (by assumption) | exact (ff_1 (by assumption)).trans (by assumption)))))))
      all_goals w_report
    case done2 =>
      rintro us2 news2 h2 tk2 ⟨rfl, hfl⟩ F2 N2
      refine hide1 ?_
      intro QQ hQQ
      k_steps
      all_goals try (refine hQQ _ _ ?_; k_steps)
      all_goals exact TurnOk.intro (nm_over (by decide +kernel) (nm_put (by decide +kernel) (nm_put (by decide +kernel) nm_base))) (kf_next hst (by k_mem) (hget.trans (congrArg some ((pick_none (hrk.len ▸ hfl)).trans (by first | exact dd_0 (by assumption) | exact dd_1 (by assumption))))))
      all_goals w_report
  case done =>
    rintro us news h tk ⟨e, st, hm, hst⟩ F N0
    have N : News _ _ h [(_, W.listOf (strValues st).toArray e)] := news_sub N0 (by
      intro p hp
      rw [List.mem_singleton.mp hp]; exact hm)
    clear N0 hm
    have hst' : st.map (·.1) = fmL x := hst.trans (by rfl)
    have hjk := fm_join x
    k_steps
    exact hret _ _ _ (Fr.keep (by k_asm)) ⟨_, rfl⟩
end
section
example : True := by
  w_top off
  trivial
open _root_.PySem _root_.PySem.W _root_.PyProof.Rows _root_.PySem.Calls
set_option maxRecDepth 100000
set_option maxHeartbeats 8000000

theorem c_mode (w : World) (k b : Int) (tk tb : Tok) (hk : k = 0 ∨ k = 1 ∨ k = 2) (hb : 0 ≤ b ∧ b < 512) : Con w 1 232 [.int k tk, .int b tb] (fun _ => True) (fun _ r _ => ∃ t, r = .int ((if k = 0 then 16384 else if k = 1 then 32768 else 40960) + b) t) := by
  rcases hk with rfl | rfl | rfl
  · unfold Con; intros; rename_i hret
    refine wpAny_call ?_
    k_dflt (refine' enter_def (binds := [(Str.ofString "kind", Value.int 0 tk), (Str.ofString "bits", Value.int b tb)]) ?k1 ?k2 ?k3 ?k5 ?kA ?kF ?kK ?k6 ?k7 ?k8 ?k9 ?kB ?_ ?c2 ?c3 ?c4 ?c5; (case kA => exact rfl); (case kF => exact rfl); (case kK => assumption); (case k1 => k_asm); (case k2 => k_asm); (case k3 => k_asm); (case k5 => k_asm); (case k6 => k_is); (case k7 => k_is); (case k8 => ktr_room); (case k9 => exact BindsTo.of_eq rfl); (case c5 => decide); (case kB => exact locs rfl); (case c2 => exact rfl); (case c3 => exact rfl); (case c4 => exact rfl); k_whole; intro L' h' F' N' B' X' T'; (try dsimp only); (try k_fold))
    k_steps
    exact hret _ _ _ (Fr.keep (by k_asm)) ⟨_, rfl⟩
  · unfold Con; intros; rename_i hret
    refine wpAny_call ?_
    k_dflt (refine' enter_def (binds := [(Str.ofString "kind", Value.int 1 tk), (Str.ofString "bits", Value.int b tb)]) ?k1 ?k2 ?k3 ?k5 ?kA ?kF ?kK ?k6 ?k7 ?k8 ?k9 ?kB ?_ ?c2 ?c3 ?c4 ?c5; (case kA => exact rfl); (case kF => exact rfl); (case kK => assumption); (case k1 => k_asm); (case k2 => k_asm); (case k3 => k_asm); (case k5 => k_asm); (case k6 => k_is); (case k7 => k_is); (case k8 => ktr_room); (case k9 => exact BindsTo.of_eq rfl); (case c5 => decide); (case kB => exact locs rfl); (case c2 => exact rfl); (case c3 => exact rfl); (case c4 => exact rfl); k_whole; intro L' h' F' N' B' X' T'; (try dsimp only); (try k_fold))
    k_steps
    exact hret _ _ _ (Fr.keep (by k_asm)) ⟨_, rfl⟩
  · unfold Con; intros; rename_i hret
    refine wpAny_call ?_
    k_dflt (refine' enter_def (binds := [(Str.ofString "kind", Value.int 2 tk), (Str.ofString "bits", Value.int b tb)]) ?k1 ?k2 ?k3 ?k5 ?kA ?kF ?kK ?k6 ?k7 ?k8 ?k9 ?kB ?_ ?c2 ?c3 ?c4 ?c5; (case kA => exact rfl); (case kF => exact rfl); (case kK => assumption); (case k1 => k_asm); (case k2 => k_asm); (case k3 => k_asm); (case k5 => k_asm); (case k6 => k_is); (case k7 => k_is); (case k8 => ktr_room); (case k9 => exact BindsTo.of_eq rfl); (case c5 => decide); (case kB => exact locs rfl); (case c2 => exact rfl); (case c3 => exact rfl); (case c4 => exact rfl); k_whole; intro L' h' F' N' B' X' T'; (try dsimp only); (try k_fold))
    k_steps
    exact hret _ _ _ (Fr.keep (by k_asm)) ⟨_, rfl⟩
end
section
example : True := by
  w_top off
  trivial
open _root_.PySem _root_.PySem.W _root_.PyProof.Rows _root_.PySem.Calls
set_option maxRecDepth 100000
set_option maxHeartbeats 8000000

noncomputable def sgn (b k : Int) : Str := if (b.fdiv (2 ^ (8 - k).toNat)).fmod 2 = 1 then Txt.item (Str.ofString "rwxrwxrwx") k else Str.ofString "-"
theorem strs_values : ∀ {vs : List Value} {ss : List Str}, StrsAre vs ss → ∃ l : List (Str × Tok), vs = strValues l ∧ l.map (·.1) = ss
  | _, _, .nil => ⟨[], rfl, rfl⟩
  | _, _, .cons c t r => by
    obtain ⟨l, rfl, rfl⟩ := strs_values r
    exact ⟨(c, t) :: l, rfl, rfl⟩
theorem stop_in {P : Prop} (h : Stop P) : P := h
local macro_rules | `(tactic| walk_at "CompSrc") => `(tactic| (k_here; refine stop_in ?_))
noncomputable def tx9 (b : Int) : List Str := [if (b.fdiv 256).fmod 2 = 1 then Str.ofString "r" else Str.ofString "-", if (b.fdiv 128).fmod 2 = 1 then Str.ofString "w" else Str.ofString "-", if (b.fdiv 64).fmod 2 = 1 then Str.ofString "x" else Str.ofString "-", if (b.fdiv 32).fmod 2 = 1 then Str.ofString "r" else Str.ofString "-", if (b.fdiv 16).fmod 2 = 1 then Str.ofString "w" else Str.ofString "-", if (b.fdiv 8).fmod 2 = 1 then Str.ofString "x" else Str.ofString "-", if (b.fdiv 4).fmod 2 = 1 then Str.ofString "r" else Str.ofString "-", if (b.fdiv 2).fmod 2 = 1 then Str.ofString "w" else Str.ofString "-", if (b.fdiv 1).fmod 2 = 1 then Str.ofString "x" else Str.ofString "-"]
theorem tx9_is (b : Int) : (rangeKs 0 (9 - 0 : Int).toNat).map (sgn b) = tx9 b := by kernel_rfl
theorem tx9_one (b : Int) : ∀ c ∈ tx9 b, c.length ≤ 1 := by
  intro c hc
  unfold tx9 at hc
  simp only [List.mem_cons, List.not_mem_nil, or_false] at hc
  rcases hc with rfl | rfl | rfl | rfl | rfl | rfl | rfl | rfl | rfl <;> (repeat' split) <;> decide +kernel
theorem tx9_join (b : Int) : JoinOk (Str.ofString "") (tx9 b) = true := join_few (a := 1) (tx9_one b) (by
  show 9 * 1 + 9 * (Str.ofString "").length ≤ 100000
  decide +kernel)
theorem tx9_len (b : Int) : (Txt.join (Str.ofString "") (tx9 b)).length ≤ 1000 := by
  refine Nat.le_trans (join_len (tx9_one b)) ?_
  show 9 * 1 + 9 * (Str.ofString "").length ≤ 1000
  decide +kernel
local macro_rules | `(tactic| walk_at "call builtin:str.join") => `(tactic| (k_here; k_dflt (refine' SC.join (led_list ?N ?m) ?h ?j ?_; (case N => k_asm); (case m => k_mem); (case h | j => assumption); k_whole); intro t' k'))
theorem c_text0 (w : World) (b : Int) (tk tb : Tok) (hb : 0 ≤ b ∧ b < 512) : Con w 1 237 [.int 0 tk, .int b tb] (fun _ => True) (fun _ r _ => ∃ t, r = .str (Txt.item (Str.ofString "d-l") 0 ++ Txt.join (Str.ofString "") (tx9 b)) t) := by
  unfold Con; intros; rename_i hret
  refine wpAny_call ?_
  k_dflt (refine' enter_defC (binds := [(Str.ofString "kind", Value.int 0 tk), (Str.ofString "bits", Value.int b tb)]) ?k1 ?k2 ?k3 ?k5 ?kA ?kF ?kK ?k6 ?k7 ?k8 ?k9 ?kB ?kD ?_ ?c2 ?c3 ?c4; (case kA => exact rfl); (case kF => exact rfl); (case kK => assumption); (case k1 => k_asm); (case k2 => k_asm); (case k3 => k_asm); (case k5 => k_asm); (case k6 => k_is); (case k7 => k_is); (case k8 => ktr_room); (case k9 => exact BindsTo.of_eq rfl); (case kB => exact rfl); (case kD => decide +kernel); (case c2 => exact rfl); (case c3 => exact rfl); (case c4 => exact rfl); k_whole; intro L' h' tk' cells' F' N' Y' B' X' T'; k_cells Y'; (try simp only [List.cons_append, List.nil_append] at N'); (try dsimp only); (try k_fold))
  k_steps
  refine LCg.CompSrc.range (by rfl) (by k_asm) (by k_asm) (by assumption) (by decide) (rangeSize_nat _ _) (Nat.le_of_ble_eq_true rfl) ?_
  intro g2
  refine kct_range (sgn b) (fun k2 t2 I2 oI2 C2 oC2 D2 m2 ys2 h2 tk2 E2 hlo2 hhi2 hC2 hx2 F2 N2 off2 ne2 hM2 => ?_) ?_
  · simp only [LCg.Off3, and_true] at off2
    k_steps
  · refine (show KPfDone _ from fun ys hC hl => ?_)
    obtain ⟨l, rfl, hl2⟩ := strs_values (StrsAre.ofCarried (ss := (rangeKs 0 (9 - 0 : Int).toNat).map (sgn b)) (by rw [List.map_map]; exact hC))
    rw [tx9_is] at hl2
    have hjk := tx9_join b
    have hlen := tx9_len b
    clear hC hl
    k_steps
    exact hret _ _ _ (Fr.keep (by k_asm)) ⟨_, rfl⟩
theorem c_text1 (w : World) (b : Int) (tk tb : Tok) (hb : 0 ≤ b ∧ b < 512) : Con w 1 237 [.int 1 tk, .int b tb] (fun _ => True) (fun _ r _ => ∃ t, r = .str (Txt.item (Str.ofString "d-l") 1 ++ Txt.join (Str.ofString "") (tx9 b)) t) := by
  unfold Con; intros; rename_i hret
  refine wpAny_call ?_
  k_dflt (refine' enter_defC (binds := [(Str.ofString "kind", Value.int 1 tk), (Str.ofString "bits", Value.int b tb)]) ?k1 ?k2 ?k3 ?k5 ?kA ?kF ?kK ?k6 ?k7 ?k8 ?k9 ?kB ?kD ?_ ?c2 ?c3 ?c4; (case kA => exact rfl); (case kF => exact rfl); (case kK => assumption); (case k1 => k_asm); (case k2 => k_asm); (case k3 => k_asm); (case k5 => k_asm); (case k6 => k_is); (case k7 => k_is); (case k8 => ktr_room); (case k9 => exact BindsTo.of_eq rfl); (case kB => exact rfl); (case kD => decide +kernel); (case c2 => exact rfl); (case c3 => exact rfl); (case c4 => exact rfl); k_whole; intro L' h' tk' cells' F' N' Y' B' X' T'; k_cells Y'; (try simp only [List.cons_append, List.nil_append] at N'); (try dsimp only); (try k_fold))
  k_steps
  refine LCg.CompSrc.range (by rfl) (by k_asm) (by k_asm) (by assumption) (by decide) (rangeSize_nat _ _) (Nat.le_of_ble_eq_true rfl) ?_
  intro g2
  refine kct_range (sgn b) (fun k2 t2 I2 oI2 C2 oC2 D2 m2 ys2 h2 tk2 E2 hlo2 hhi2 hC2 hx2 F2 N2 off2 ne2 hM2 => ?_) ?_
  · simp only [LCg.Off3, and_true] at off2
    k_steps
  · refine (show KPfDone _ from fun ys hC hl => ?_)
    obtain ⟨l, rfl, hl2⟩ := strs_values (StrsAre.ofCarried (ss := (rangeKs 0 (9 - 0 : Int).toNat).map (sgn b)) (by rw [List.map_map]; exact hC))
    rw [tx9_is] at hl2
    have hjk := tx9_join b
    have hlen := tx9_len b
    clear hC hl
    k_steps
    exact hret _ _ _ (Fr.keep (by k_asm)) ⟨_, rfl⟩
theorem c_text2 (w : World) (b : Int) (tk tb : Tok) (hb : 0 ≤ b ∧ b < 512) : Con w 1 237 [.int 2 tk, .int b tb] (fun _ => True) (fun _ r _ => ∃ t, r = .str (Txt.item (Str.ofString "d-l") 2 ++ Txt.join (Str.ofString "") (tx9 b)) t) := by
  unfold Con; intros; rename_i hret
  refine wpAny_call ?_
  k_dflt (refine' enter_defC (binds := [(Str.ofString "kind", Value.int 2 tk), (Str.ofString "bits", Value.int b tb)]) ?k1 ?k2 ?k3 ?k5 ?kA ?kF ?kK ?k6 ?k7 ?k8 ?k9 ?kB ?kD ?_ ?c2 ?c3 ?c4; (case kA => exact rfl); (case kF => exact rfl); (case kK => assumption); (case k1 => k_asm); (case k2 => k_asm); (case k3 => k_asm); (case k5 => k_asm); (case k6 => k_is); (case k7 => k_is); (case k8 => ktr_room); (case k9 => exact BindsTo.of_eq rfl); (case kB => exact rfl); (case kD => decide +kernel); (case c2 => exact rfl); (case c3 => exact rfl); (case c4 => exact rfl); k_whole; intro L' h' tk' cells' F' N' Y' B' X' T'; k_cells Y'; (try simp only [List.cons_append, List.nil_append] at N'); (try dsimp only); (try k_fold))
  k_steps
  refine LCg.CompSrc.range (by rfl) (by k_asm) (by k_asm) (by assumption) (by decide) (rangeSize_nat _ _) (Nat.le_of_ble_eq_true rfl) ?_
  intro g2
  refine kct_range (sgn b) (fun k2 t2 I2 oI2 C2 oC2 D2 m2 ys2 h2 tk2 E2 hlo2 hhi2 hC2 hx2 F2 N2 off2 ne2 hM2 => ?_) ?_
  · simp only [LCg.Off3, and_true] at off2
    k_steps
  · refine (show KPfDone _ from fun ys hC hl => ?_)
    obtain ⟨l, rfl, hl2⟩ := strs_values (StrsAre.ofCarried (ss := (rangeKs 0 (9 - 0 : Int).toNat).map (sgn b)) (by rw [List.map_map]; exact hC))
    rw [tx9_is] at hl2
    have hjk := tx9_join b
    have hlen := tx9_len b
    clear hC hl
    k_steps
    exact hret _ _ _ (Fr.keep (by k_asm)) ⟨_, rfl⟩
end
section
open _root_.PySem _root_.PySem.W _root_.PyProof.Rows
set_option maxRecDepth 100000
set_option maxHeartbeats 1000000
theorem ask_p (x m : Int) : (Builtin.bitAnd x m = m) = (askB x m = true) := by simp [askB]
theorem has_p (b p : Int) : ((b.fdiv p).fmod 2 = 1) = (hasB b p = true) := by simp [hasB]
theorem let_all : ∀ k : Fin 3, Txt.item (Str.ofString "d-l") (k.val : Int) = S [letter k] := by decide +kernel
theorem tx9_S (b : Int) : tx9 b = ((sgs b).map (·.toNat)).map fun n => S [n] := by
  unfold tx9 sgs
  simp only [has_p, sg_has, List.map_cons, List.map_nil]
  rw [one_of _ (Str.ofString "r") 114 (by decide +kernel), one_of _ (Str.ofString "w") 119 (by decide +kernel), one_of _ (Str.ofString "x") 120 (by decide +kernel), one_of _ (Str.ofString "r") 114 (by decide +kernel), one_of _ (Str.ofString "w") 119 (by decide +kernel), one_of _ (Str.ofString "x") 120 (by decide +kernel), one_of _ (Str.ofString "r") 114 (by decide +kernel), one_of _ (Str.ofString "w") 119 (by decide +kernel), one_of _ (Str.ofString "x") 120 (by decide +kernel)]
theorem codes_all : ∀ b : Fin 512, ∀ k : Fin 3, Txt.item (Str.ofString "d-l") (k.val : Int) ++ Txt.join (Str.ofString "") (tx9 (b.val : Int)) = ⟨(letter k :: (sgs (b.val : Int)).map (·.toNat)).toArray⟩ := by
  intro b k
  rw [tx9_S, txt_ones, let_all, S_append]
  rfl
theorem fm_S (b : Fin 512) (k : Fin 3) : fmL (baseOf k + (b.val : Int)) = (letter k :: (sgs (b.val : Int)).map (·.toNat)).map fun n => S [n] := by
  have h1 := asks_all b k
  have h2 := none_all b k
  have h3 := (bits_all b k).2
  simp only [List.map_cons, List.map_nil, List.cons.injEq, and_true] at h1 h2
  obtain ⟨a1, a2, a3, a4, a5, a6, a7, a8, a9⟩ := h1
  obtain ⟨n1, n2, n3, n4, n5, n6⟩ := h2
  unfold fmL sgs
  rw [h3]
  simp only [ask_p, a1, a2, a3, a4, a5, a6, a7, a8, a9, n1, n2, n3, n4, n5, n6, Bool.false_eq_true, if_false, sg_has, List.map_cons, List.map_nil]
  rw [one_of _ (Str.ofString "r") 114 (by decide +kernel), one_of _ (Str.ofString "w") 119 (by decide +kernel), one_of _ (Str.ofString "x") 120 (by decide +kernel), one_of _ (Str.ofString "r") 114 (by decide +kernel), one_of _ (Str.ofString "w") 119 (by decide +kernel), one_of _ (Str.ofString "x") 120 (by decide +kernel), one_of _ (Str.ofString "r") 114 (by decide +kernel), one_of _ (Str.ofString "w") 119 (by decide +kernel), one_of _ (Str.ofString "x") 120 (by decide +kernel)]
  congr 1
  revert k
  intro k
  match k with
  | 0 => intros; decide +kernel
  | 1 => intros; decide +kernel
  | 2 => intros; decide +kernel
theorem text_all : ∀ b : Fin 512, ∀ k : Fin 3, Txt.join (Str.ofString "") (fmL (baseOf k + (b.val : Int))) = Txt.item (Str.ofString "d-l") (k.val : Int) ++ Txt.join (Str.ofString "") (tx9 (b.val : Int)) := by
  intro b k
  rw [codes_all, fm_S, txt_ones]
end
section
local macro_rules | `(tactic| walk_at "pad") => `(tactic| skip)
example : True := by
  w_top off
  trivial
open _root_.PySem _root_.PySem.W _root_.PyProof.Rows _root_.PySem.Calls
set_option maxRecDepth 100000
set_option maxHeartbeats 8000000

abbrev baO (a : Array UInt8) : Obj := { cls := .type "bytearray", data := .bytearray a }
noncomputable def bin (b : Array UInt8) (wd o : Nat) (x : Array UInt8) : Nat → Array UInt8
  | 0 => x
  | j + 1 => (bin b wd o x j).setIfInBounds (o + wd - 1 - j) (b.getD (o + j) 0)
noncomputable def bout (b : Array UInt8) (wd : Nat) : Nat → Array UInt8
  | 0 => Array.replicate 9 0
  | i + 1 => bin b wd (i * wd) (bout b wd i) wd
noncomputable def Kb (b : Array UInt8) (wd : Nat) (D : Addr) (i : Nat) (news : List (Addr × Obj)) : Prop := (D, baO (bout b wd i)) ∈ news
theorem bin_size {b : Array UInt8} {wd o : Nat} {x : Array UInt8} : ∀ j, (bin b wd o x j).size = x.size
  | 0 => rfl
  | j + 1 => by rw [bin, Array.size_setIfInBounds, bin_size j]
theorem bout_size {b : Array UInt8} {wd : Nat} : ∀ i, (bout b wd i).size = 9
  | 0 => by rw [bout]; simp
  | i + 1 => by rw [bout, bin_size, bout_size i]
theorem bin_turn {b x : Array UInt8} {wd o j k : Nat} {v : UInt8} {I D : Addr} {it : Obj} (hk : k = o + wd - 1 - j) (hv : v = b.getD (o + j) 0) : [(I, it), (D, baO ((bin b wd o x j).setIfInBounds k v))] = [(I, it), (D, baO (bin b wd o x (j + 1)))] := by rw [bin, hk, hv]
theorem bout_turn {b : Array UInt8} {wd i : Nat} {D : Addr} {news : List (Addr × Obj)} (h : news = [(D, baO (bin b wd (i * wd) (bout b wd i) wd))]) : Kb b wd D (i + 1) news := by
  subst h; unfold Kb; rw [bout]; simp
section
variable {prog : Program} {w : World} {A : Around} {E : Value → Shared → Prop} {s : Shared} {h₀ : Heap} {L D : Addr} {m : Str → Option Value} {news news' : List (Addr × Obj)}
theorem setItem_baK {b : Array UInt8} {z : Int} {v : UInt8} {t u : Tok} {Q : Unit → Shared → Prop} (F : Fr h₀ L s.heap m) (N : News h₀ L s.heap news) (U : Upd D (baO b) (baO (b.setIfInBounds z.toNat v)) news news') (hk : 0 ≤ z ∧ z < 1000 ∧ z < b.size) (hz : b.size ≤ 1000)
    (hQ : ∀ h', Fr h₀ L h' m → News h₀ L h' news' → Q () { s with heap := h' }) : wpAny (model prog w) A (setItem (.ref D) (.int z t) (.int (v.toNat : Int) u)) Q E s := by
  obtain ⟨pre, post, rfl, rfl, a, c⟩ := U.split
  have z' := N (D, baO b) (List.mem_append.mpr (.inr (.head _)))
  have hv := v.toNat_lt
  refine setItem_ba z'.1 hk ⟨Int.natCast_nonneg _, by omega⟩ hz fun h' hD' k' => ?_
  have e : (v.toNat : Int).toNat.toUInt8 = v := by simp
  rw [e] at hD'
  exact hQ h' (F.change k' z'.2.1 z'.2.2) (news_set N a c k' hD')
end
theorem swap9 (b0 b1 b2 b3 b4 b5 b6 b7 b8 : UInt8) : bout #[b0, b1, b2, b3, b4, b5, b6, b7, b8] 9 1 = #[b8, b7, b6, b5, b4, b3, b2, b1, b0] := by kernel_rfl
theorem swap3 (b0 b1 b2 b3 b4 b5 b6 b7 b8 : UInt8) : bout #[b0, b1, b2, b3, b4, b5, b6, b7, b8] 3 3 = #[b2, b1, b0, b5, b4, b3, b8, b7, b6] := by kernel_rfl
local macro_rules | `(tactic| walk_at "setItem ref int int") => `(tactic| (k_here; k_dflt (refine' setItem_baK ?F ?N ?U ?k ?z ?_; (case F | N => k_asm); (case U => k_upd); (case k => rw [bin_size, bout_size]; decide); (case z => rw [bin_size, bout_size]; decide); k_whole); intro h' F' N'; (try k_sweep)))
local macro_rules | `(tactic| walk_at "exec For Name Call cons nil") => `(tactic| (k_here; (rename Fr _ _ _ _ => lF'); (with_unfolding_all refine' For_turns lF' ?_); k_whole))
theorem c_byteswap9 (w : World) (b0 b1 b2 b3 b4 b5 b6 b7 b8 : UInt8) (t t' : Tok) : ConG w 1 28 [.bytes #[b0, b1, b2, b3, b4, b5, b6, b7, b8] t, .int 9 t'] (fun _ => True) (fun _ r _ => ∃ t, r = .bytes #[b8, b7, b6, b5, b4, b3, b2, b1, b0] t) := by
  unfold ConG; intros; rename_i hret
  refine G_call ?_
  k_dflt (refine' enter_defG (binds := [(Str.ofString "data", Value.bytes #[b0, b1, b2, b3, b4, b5, b6, b7, b8] t), (Str.ofString "width", Value.int 9 t')]) ?k1 ?k2 ?k3 ?k5 ?kA ?kF ?kK ?k6 ?k7 ?k8 ?k9 ?kB ?_ ?c2 ?c3 ?c4 ?c5; (case kA => exact rfl); (case kF => exact rfl); (case kK => assumption); (case k1 => k_asm); (case k2 => k_asm); (case k3 => k_asm); (case k5 => k_asm); (case k6 => k_is); (case k7 => k_is); (case k8 => ktr_room); (case k9 => exact BindsTo.of_eq rfl); (case c5 => decide); (case kB => exact locs rfl); (case c2 => exact rfl); (case c3 => exact rfl); (case c4 => exact rfl); k_whole; intro L' h' F' N' B' X' T'; (try dsimp only); (try k_fold))
  refine G_execs_cons (G_Assign1 (G_Call ?_))
  k_steps
  refine G_callWith_T (by k_asm) ?_
  k_steps
  refine G_bytearray' (n := 9) rfl ⟨by decide, by decide⟩ (by k_asm) (by k_asm) fun D h₁ hlt F1 N1 => ?_
  k_steps
  refine G_rest ?_
  k_steps
  rename Fr _ _ _ _ => hF
  rename News _ _ _ _ => hN
  rename IsRange _ _ _ _ _ _ _ _ => hR
  refine loop_range [Str.ofString "i", Str.ofString "j"] (n := 1) (Kb #[b0, b1, b2, b3, b4, b5, b6, b7, b8] 9 D) rfl hR (by show Builtin.Range.small 0 9 9 = true; decide +kernel) (by show Builtin.Range.rangeSize 0 9 9 = (1 : Int); decide +kernel) hF hN (by unfold Kb; rw [bout]; k_mem) ?step ?done
  case step =>
    rintro I hI i z t us news hi hz hK h tk it hit F N0
    have N : News _ _ h [(I, it), (D, baO (bout #[b0, b1, b2, b3, b4, b5, b6, b7, b8] 9 i))] := news_sub N0 (by
      intro p hp
      simp only [List.mem_cons, List.not_mem_nil, or_false] at hp
      rcases hp with rfl | rfl
      · simp
      · exact List.mem_cons_of_mem _ hK)
    clear N0 hK
    k_lt hI
    obtain rfl : i = 0 := by omega
    · obtain rfl : z = 0 := by omega
      k_steps
      rename Fr _ _ _ _ => hF
      rename News _ _ _ _ => hN
      rename IsRange _ _ _ _ _ _ _ _ => hR
      refine loop_range [Str.ofString "j"] (n := 9) (fun j n => n = [(I, it), (D, baO (bin #[b0, b1, b2, b3, b4, b5, b6, b7, b8] 9 0 (bout #[b0, b1, b2, b3, b4, b5, b6, b7, b8] 9 0) j))]) rfl hR (by decide +kernel) (by decide +kernel) hF hN rfl ?step2 ?done2
      case step2 =>
        rintro I2 hI2 j z2 t2 us2 news2 hj hz2 rfl h2 tk2 it2 hit2 F2 N2
        k_lt hI2
        obtain rfl | rfl | rfl | rfl | rfl | rfl | rfl | rfl | rfl : j = 0 ∨ j = 1 ∨ j = 2 ∨ j = 3 ∨ j = 4 ∨ j = 5 ∨ j = 6 ∨ j = 7 ∨ j = 8 := by omega
        · obtain rfl : z2 = 0 := by omega
          k_steps
          exact TurnOk.intro (nm_put (by decide +kernel) nm_base) (bin_turn (by decide) rfl)
        · obtain rfl : z2 = 1 := by omega
          k_steps
          exact TurnOk.intro (nm_put (by decide +kernel) nm_base) (bin_turn (by decide) rfl)
        · obtain rfl : z2 = 2 := by omega
          k_steps
          exact TurnOk.intro (nm_put (by decide +kernel) nm_base) (bin_turn (by decide) rfl)
        · obtain rfl : z2 = 3 := by omega
          k_steps
          exact TurnOk.intro (nm_put (by decide +kernel) nm_base) (bin_turn (by decide) rfl)
        · obtain rfl : z2 = 4 := by omega
          k_steps
          exact TurnOk.intro (nm_put (by decide +kernel) nm_base) (bin_turn (by decide) rfl)
        · obtain rfl : z2 = 5 := by omega
          k_steps
          exact TurnOk.intro (nm_put (by decide +kernel) nm_base) (bin_turn (by decide) rfl)
        · obtain rfl : z2 = 6 := by omega
          k_steps
          exact TurnOk.intro (nm_put (by decide +kernel) nm_base) (bin_turn (by decide) rfl)
        · obtain rfl : z2 = 7 := by omega
          k_steps
          exact TurnOk.intro (nm_put (by decide +kernel) nm_base) (bin_turn (by decide) rfl)
        · obtain rfl : z2 = 8 := by omega
          k_steps
          exact TurnOk.intro (nm_put (by decide +kernel) nm_base) (bin_turn (by decide) rfl)
      case done2 =>
        rintro us2 news2 h2 tk2 rfl F2 N2
        k_steps
        exact TurnOk.intro (nm_over (by decide +kernel) (nm_put (by decide +kernel) nm_base)) (bout_turn rfl)
  case done =>
    rintro us news h tk hK F N0
    have N : News _ _ h [(D, baO (bout #[b0, b1, b2, b3, b4, b5, b6, b7, b8] 9 1))] := news_sub N0 (by
      intro p hp
      rw [List.mem_singleton.mp hp]; exact hK)
    clear N0 hK
    k_steps
    refine call_bytes_ba (N _ (List.mem_singleton.mpr rfl)).1 (by rw [bout_size]; decide) fun t k => ?_
    exact ⟨_, rfl, hret _ _ _ (Fr.keep (by k_asm)) ⟨t, by rw [swap9]⟩⟩
theorem c_byteswap3 (w : World) (b0 b1 b2 b3 b4 b5 b6 b7 b8 : UInt8) (t t' : Tok) : ConG w 1 28 [.bytes #[b0, b1, b2, b3, b4, b5, b6, b7, b8] t, .int 3 t'] (fun _ => True) (fun _ r _ => ∃ t, r = .bytes #[b2, b1, b0, b5, b4, b3, b8, b7, b6] t) := by
  unfold ConG; intros; rename_i hret
  refine G_call ?_
  k_dflt (refine' enter_defG (binds := [(Str.ofString "data", Value.bytes #[b0, b1, b2, b3, b4, b5, b6, b7, b8] t), (Str.ofString "width", Value.int 3 t')]) ?k1 ?k2 ?k3 ?k5 ?kA ?kF ?kK ?k6 ?k7 ?k8 ?k9 ?kB ?_ ?c2 ?c3 ?c4 ?c5; (case kA => exact rfl); (case kF => exact rfl); (case kK => assumption); (case k1 => k_asm); (case k2 => k_asm); (case k3 => k_asm); (case k5 => k_asm); (case k6 => k_is); (case k7 => k_is); (case k8 => ktr_room); (case k9 => exact BindsTo.of_eq rfl); (case c5 => decide); (case kB => exact locs rfl); (case c2 => exact rfl); (case c3 => exact rfl); (case c4 => exact rfl); k_whole; intro L' h' F' N' B' X' T'; (try dsimp only); (try k_fold))
  refine G_execs_cons (G_Assign1 (G_Call ?_))
  k_steps
  refine G_callWith_T (by k_asm) ?_
  k_steps
  refine G_bytearray' (n := 9) rfl ⟨by decide, by decide⟩ (by k_asm) (by k_asm) fun D h₁ hlt F1 N1 => ?_
  k_steps
  refine G_rest ?_
  k_steps
  rename Fr _ _ _ _ => hF
  rename News _ _ _ _ => hN
  rename IsRange _ _ _ _ _ _ _ _ => hR
  refine loop_range [Str.ofString "i", Str.ofString "j"] (n := 3) (Kb #[b0, b1, b2, b3, b4, b5, b6, b7, b8] 3 D) rfl hR (by show Builtin.Range.small 0 9 3 = true; decide +kernel) (by show Builtin.Range.rangeSize 0 9 3 = (3 : Int); decide +kernel) hF hN (by unfold Kb; rw [bout]; k_mem) ?step ?done
  case step =>
    rintro I hI i z t us news hi hz hK h tk it hit F N0
    have N : News _ _ h [(I, it), (D, baO (bout #[b0, b1, b2, b3, b4, b5, b6, b7, b8] 3 i))] := news_sub N0 (by
      intro p hp
      simp only [List.mem_cons, List.not_mem_nil, or_false] at hp
      rcases hp with rfl | rfl
      · simp
      · exact List.mem_cons_of_mem _ hK)
    clear N0 hK
    k_lt hI
    obtain rfl | rfl | rfl : i = 0 ∨ i = 1 ∨ i = 2 := by omega
    · obtain rfl : z = 0 := by omega
      k_steps
      rename Fr _ _ _ _ => hF
      rename News _ _ _ _ => hN
      rename IsRange _ _ _ _ _ _ _ _ => hR
      refine loop_range [Str.ofString "j"] (n := 3) (fun j n => n = [(I, it), (D, baO (bin #[b0, b1, b2, b3, b4, b5, b6, b7, b8] 3 0 (bout #[b0, b1, b2, b3, b4, b5, b6, b7, b8] 3 0) j))]) rfl hR (by decide +kernel) (by decide +kernel) hF hN rfl ?step2 ?done2
      case step2 =>
        rintro I2 hI2 j z2 t2 us2 news2 hj hz2 rfl h2 tk2 it2 hit2 F2 N2
        k_lt hI2
        obtain rfl | rfl | rfl : j = 0 ∨ j = 1 ∨ j = 2 := by omega
        · obtain rfl : z2 = 0 := by omega
          k_steps
          exact TurnOk.intro (nm_put (by decide +kernel) nm_base) (bin_turn (by decide) rfl)
        · obtain rfl : z2 = 1 := by omega
          k_steps
          exact TurnOk.intro (nm_put (by decide +kernel) nm_base) (bin_turn (by decide) rfl)
        · obtain rfl : z2 = 2 := by omega
          k_steps
          exact TurnOk.intro (nm_put (by decide +kernel) nm_base) (bin_turn (by decide) rfl)
      case done2 =>
        rintro us2 news2 h2 tk2 rfl F2 N2
        k_steps
        exact TurnOk.intro (nm_over (by decide +kernel) (nm_put (by decide +kernel) nm_base)) (bout_turn rfl)
    · obtain rfl : z = 3 := by omega
      k_steps
      rename Fr _ _ _ _ => hF
      rename News _ _ _ _ => hN
      rename IsRange _ _ _ _ _ _ _ _ => hR
      refine loop_range [Str.ofString "j"] (n := 3) (fun j n => n = [(I, it), (D, baO (bin #[b0, b1, b2, b3, b4, b5, b6, b7, b8] 3 3 (bout #[b0, b1, b2, b3, b4, b5, b6, b7, b8] 3 1) j))]) rfl hR (by decide +kernel) (by decide +kernel) hF hN rfl ?step2 ?done2
      case step2 =>
        rintro I2 hI2 j z2 t2 us2 news2 hj hz2 rfl h2 tk2 it2 hit2 F2 N2
        k_lt hI2
        obtain rfl | rfl | rfl : j = 0 ∨ j = 1 ∨ j = 2 := by omega
        · obtain rfl : z2 = 0 := by omega
          k_steps
          exact TurnOk.intro (nm_put (by decide +kernel) nm_base) (bin_turn (by decide) rfl)
        · obtain rfl : z2 = 1 := by omega
          k_steps
          exact TurnOk.intro (nm_put (by decide +kernel) nm_base) (bin_turn (by decide) rfl)
        · obtain rfl : z2 = 2 := by omega
          k_steps
          exact TurnOk.intro (nm_put (by decide +kernel) nm_base) (bin_turn (by decide) rfl)
      case done2 =>
        rintro us2 news2 h2 tk2 rfl F2 N2
        k_steps
        exact TurnOk.intro (nm_over (by decide +kernel) (nm_put (by decide +kernel) nm_base)) (bout_turn rfl)
    · obtain rfl : z = 6 := by omega
      k_steps
      rename Fr _ _ _ _ => hF
      rename News _ _ _ _ => hN
      rename IsRange _ _ _ _ _ _ _ _ => hR
      refine loop_range [Str.ofString "j"] (n := 3) (fun j n => n = [(I, it), (D, baO (bin #[b0, b1, b2, b3, b4, b5, b6, b7, b8] 3 6 (bout #[b0, b1, b2, b3, b4, b5, b6, b7, b8] 3 2) j))]) rfl hR (by decide +kernel) (by decide +kernel) hF hN rfl ?step2 ?done2
      case step2 =>
        rintro I2 hI2 j z2 t2 us2 news2 hj hz2 rfl h2 tk2 it2 hit2 F2 N2
        k_lt hI2
        obtain rfl | rfl | rfl : j = 0 ∨ j = 1 ∨ j = 2 := by omega
        · obtain rfl : z2 = 0 := by omega
          k_steps
          exact TurnOk.intro (nm_put (by decide +kernel) nm_base) (bin_turn (by decide) rfl)
        · obtain rfl : z2 = 1 := by omega
          k_steps
          exact TurnOk.intro (nm_put (by decide +kernel) nm_base) (bin_turn (by decide) rfl)
        · obtain rfl : z2 = 2 := by omega
          k_steps
          exact TurnOk.intro (nm_put (by decide +kernel) nm_base) (bin_turn (by decide) rfl)
      case done2 =>
        rintro us2 news2 h2 tk2 rfl F2 N2
        k_steps
        exact TurnOk.intro (nm_over (by decide +kernel) (nm_put (by decide +kernel) nm_base)) (bout_turn rfl)
  case done =>
    rintro us news h tk hK F N0
    have N : News _ _ h [(D, baO (bout #[b0, b1, b2, b3, b4, b5, b6, b7, b8] 3 3))] := news_sub N0 (by
      intro p hp
      rw [List.mem_singleton.mp hp]; exact hK)
    clear N0 hK
    k_steps
    refine call_bytes_ba (N _ (List.mem_singleton.mpr rfl)).1 (by rw [bout_size]; decide) fun t k => ?_
    exact ⟨_, rfl, hret _ _ _ (Fr.keep (by k_asm)) ⟨t, by rw [swap3]⟩⟩
end
section
open _root_.PySem _root_.PySem.Builtin _root_.PySem.Builtin._codecs
open _root_.PyProof.Rows _root_.PySem.W _root_.PySem.Calls
set_option maxRecDepth 100000
set_option maxHeartbeats 1000000
theorem enc9 (id : String) (self : Value) (b0 b1 b2 b3 b4 b5 b6 b7 b8 : UInt8) (h0 : b0.toNat < 128) (h1 : b1.toNat < 128) (h2 : b2.toNat < 128) (h3 : b3.toNat < 128) (h4 : b4.toNat < 128) (h5 : b5.toNat < 128) (h6 : b6.toNat < 128) (h7 : b7.toNat < 128) (h8 : b8.toNat < 128) :
    encodeNarrow id asciiCodec none self (S [b0.toNat, b1.toNat, b2.toNat, b3.toNat, b4.toNat, b5.toNat, b6.toNat, b7.toNat, b8.toNat]) = pure #[b0, b1, b2, b3, b4, b5, b6, b7, b8] := by
  unfold encodeNarrow
  have e0 := Nat.not_le.mpr h0
  have e1 := Nat.not_le.mpr h1
  have e2 := Nat.not_le.mpr h2
  have e3 := Nat.not_le.mpr h3
  have e4 := Nat.not_le.mpr h4
  have e5 := Nat.not_le.mpr h5
  have e6 := Nat.not_le.mpr h6
  have e7 := Nat.not_le.mpr h7
  have e8 := Nat.not_le.mpr h8
  simp [Str.length, asciiCodec]
  simp [List.range', List.forIn_cons, List.findIdx?_cons, sizeLine_eq, h0, e0, e1, e2, e3, e4, e5, e6, e7, e8]
theorem dec9 (id : String) (b0 b1 b2 b3 b4 b5 b6 b7 b8 : UInt8) (h0 : b0.toNat < 128) (h1 : b1.toNat < 128) (h2 : b2.toNat < 128) (h3 : b3.toNat < 128) (h4 : b4.toNat < 128) (h5 : b5.toNat < 128) (h6 : b6.toNat < 128) (h7 : b7.toNat < 128) (h8 : b8.toNat < 128) :
    runDecoder id asciiDecoder none true #[b0, b1, b2, b3, b4, b5, b6, b7, b8] 0 [] = pure ((S [b0.toNat, b1.toNat, b2.toNat, b3.toNat, b4.toNat, b5.toNat, b6.toNat, b7.toNat, b8.toNat]).cps, 9) := by
  unfold runDecoder
  simp [asciiDecoder, Found.char, List.range', List.forIn_cons, sizeLine_eq, h0, h1, h2, h3, h4, h5, h6, h7, h8]
theorem enc_args (a b : Value) : argsOk "str.encode" ⟨[a, b], []⟩ := by first | decide +kernel | (unfold argsOk; kernel_rfl)
theorem enc_entry : entryFor table "str.encode" = some Builtin.«str.encode» := entryFor_of_tree (by kernel_rfl)
theorem enc_self (x : Str) (t u : Tok) : Builtin.Str.strSelf ⟨[.str x t, .str (PySem.Str.ofString "ascii") u], []⟩ = pure (Value.str x t, x, [Value.str (PySem.Str.ofString "ascii") u]) := by kernel_rfl
theorem enc_bind (u : Tok) : Builtin.Str.bindOptional "str.encode" "encode" 0 ["encoding", "errors"] [.str (PySem.Str.ofString "ascii") u] [] = pure [some (.str (PySem.Str.ofString "ascii") u), none] := by kernel_rfl
theorem enc_arg (u : Tok) : Builtin.Str.codecArg "str.encode" "encode" "'encoding'" (some (.str (PySem.Str.ofString "ascii") u)) = pure (some (PySem.Str.ofString "ascii")) := by kernel_rfl
theorem enc_arg0 : Builtin.Str.codecArg "str.encode" "encode" "'errors'" none = pure none := by kernel_rfl
theorem enc_road (x : Str) (v : Value) : encodeRoad "str.encode" v x (PySem.Str.ofString "ascii") none = (encodeNarrow "str.encode" asciiCodec none v x >>= fun b => mkBytes b) := by kernel_rfl
theorem dec_road (id : String) (b : Array UInt8) : decodeRoad id b (PySem.Str.ofString "ascii") none [] = (runDecoder id asciiDecoder none true b 0 [] >>= fun r => mkStr ⟨r.1⟩) := by kernel_rfl
theorem dec_eq (c : UInt8) (cs : List UInt8) (t u : Tok) : «bytes.decode» ⟨[.bytes (c :: cs).toArray t, .str (PySem.Str.ofString "ascii") u], []⟩ = (mkStr (PySem.Str.ofString "utf-8") >>= fun _ => mkStr (PySem.Str.ofString "ascii") >>= fun e => mkStr (PySem.Str.ofString "bytes.decode") >>= fun d =>
    call (.builtin "_codecs.decode.text") [.bytes (c :: cs).toArray t, e, .none, d] >>= fun v => ret v) := by kernel_rfl
theorem dec_args (a b : Value) : argsOk "bytes.decode" ⟨[a, b], []⟩ := by first | decide +kernel | (unfold argsOk; kernel_rfl)
section
variable {prog : Program} {w : World} {A : Around} {E : Value → Shared → Prop} {s : Shared} {b0 b1 b2 b3 b4 b5 b6 b7 b8 : UInt8} {t u : Tok} {x : PySem.Str}
theorem call_encode9 {Q : Value → Shared → Prop} (hx : x = S [b0.toNat, b1.toNat, b2.toNat, b3.toNat, b4.toNat, b5.toNat, b6.toNat, b7.toNat, b8.toNat]) (h0 : b0.toNat < 128) (h1 : b1.toNat < 128) (h2 : b2.toNat < 128) (h3 : b3.toNat < 128) (h4 : b4.toNat < 128) (h5 : b5.toNat < 128) (h6 : b6.toNat < 128) (h7 : b7.toNat < 128) (h8 : b8.toNat < 128)
    (h : ∀ t' k, Q (.bytes #[b0, b1, b2, b3, b4, b5, b6, b7, b8] t') { s with toks := k }) : wpAny (model prog w) A (call (.builtin "str.encode") [.str x t, .str (PySem.Str.ofString "ascii") u]) Q E s := by
  refine wpAny_call_entry F.slot_str_encode (typeIs_str _ _ _) enc_entry ?_ (enc_args _ _)
  unfold «str.encode»
  with_reducible refine wpAny_bind ?_
  refine wpAny_of_eq (enc_self x t u) ?_
  dsimp only
  with_reducible refine wpAny_bind ?_
  refine wpAny_of_eq (enc_bind u) ?_
  dsimp only
  with_reducible refine wpAny_bind ?_
  refine wpAny_of_eq (enc_arg u) ?_
  with_reducible refine wpAny_bind ?_
  refine wpAny_of_eq enc_arg0 ?_
  with_reducible refine wpAny_bind ?_
  show wpAny _ _ (encodeRoad "str.encode" (.str x t) x (PySem.Str.ofString "ascii") none) _ _ _
  rw [enc_road]
  subst hx
  rw [enc9 _ _ b0 b1 b2 b3 b4 b5 b6 b7 b8 h0 h1 h2 h3 h4 h5 h6 h7 h8]
  refine wpAny_bind (wpAny_pure ?_)
  refine wpAny_mkBytes ?_ (by rw [sizeLine_eq]; exact Nat.le_of_ble_eq_true rfl)
  exact wpAny_pure ⟨_, rfl, h _ _⟩
theorem dec_text {t1 t2 : Tok} {d : PySem.Str} (h0 : b0.toNat < 128) (h1 : b1.toNat < 128) (h2 : b2.toNat < 128) (h3 : b3.toNat < 128) (h4 : b4.toNat < 128) (h5 : b5.toNat < 128) (h6 : b6.toNat < 128) (h7 : b7.toNat < 128) (h8 : b8.toNat < 128) :
    Meets («_codecs.decode.text» ⟨[.bytes #[b0, b1, b2, b3, b4, b5, b6, b7, b8] t, .str (PySem.Str.ofString "ascii") t1, .none, .str d t2], []⟩) (fun _ R s => R (.ok (.ret (.str (S [b0.toNat, b1.toNat, b2.toNat, b3.toNat, b4.toNat, b5.toNat, b6.toNat, b7.toNat, b8.toNat]) s.toks))) { s with toks := s.toks + 1 }) := by
  refine .of_wp fun prog w A R s h => ?_
  show wpAny _ _ (Bytes.bytesLike _ (.bytes #[b0, b1, b2, b3, b4, b5, b6, b7, b8] t) >>= fun r => _) _ _ s
  refine wpAny_bind (wpAny_of_eq KBd.like_eq ?_)
  refine wpAny_bind (wpAny_of_eq KBd.held_eq ?_)
  show wpAny _ _ (_codecs.decodeRoad _ #[b0, b1, b2, b3, b4, b5, b6, b7, b8] (PySem.Str.ofString "ascii") none [] >>= fun v => _) _ _ s
  rw [dec_road, dec9 _ b0 b1 b2 b3 b4 b5 b6 b7 b8 h0 h1 h2 h3 h4 h5 h6 h7 h8]
  refine wpAny_bind (wpAny_bind (wpAny_pure ?_))
  exact wpAny_mkStr (wpAny_pure ⟨_, rfl, h⟩) (by rw [sizeLine_eq]; exact Nat.le_of_ble_eq_true rfl)
theorem call_decode9 {Q : Value → Shared → Prop} (h0 : b0.toNat < 128) (h1 : b1.toNat < 128) (h2 : b2.toNat < 128) (h3 : b3.toNat < 128) (h4 : b4.toNat < 128) (h5 : b5.toNat < 128) (h6 : b6.toNat < 128) (h7 : b7.toNat < 128) (h8 : b8.toNat < 128)
    (h : ∀ t' k, Q (.str (S [b0.toNat, b1.toNat, b2.toNat, b3.toNat, b4.toNat, b5.toNat, b6.toNat, b7.toNat, b8.toNat]) t') { s with toks := k }) : wpAny (model prog w) A (call (.builtin "bytes.decode") [.bytes #[b0, b1, b2, b3, b4, b5, b6, b7, b8] t, .str (PySem.Str.ofString "ascii") u]) Q E s := by
  refine wpAny_call_entry FB.slot_bytes_decode (typeIs_bytes _ _ _) FB.entry_bytes_decode ?_ (dec_args _ _)
  show wpAny _ _ («bytes.decode» ⟨[.bytes (b0 :: [b1, b2, b3, b4, b5, b6, b7, b8]).toArray t, .str (PySem.Str.ofString "ascii") u], []⟩) _ _ _
  rw [dec_eq]
  refine wpAny_bind (wpAny_mkStr ?_ (by decide))
  refine wpAny_bind (wpAny_mkStr ?_ (by decide))
  refine wpAny_bind (wpAny_mkStr ?_ (by decide))
  exact wpAny_bind (call_function_meets KBd.kind_text KBd.plain_text KBd.entry_text (KBd.args_text _ _ _ _) (dec_text h0 h1 h2 h3 h4 h5 h6 h7 h8) (wpAny_pure ⟨_, rfl, h _ _⟩))
theorem get_encode {M : Model} {pl : Sem Bool} {Q : Value × List Value → Shared → Prop} (h : Q (.builtin "str.encode", [.str x t]) s) : wpAny M A (getMethod (.str x t) "encode" pl) Q E s := by
  with_reducible exact GM.of (.str x t) (typeIs_str _ _ _) F.slot_str_encode F.type_str_encode GM.noRef h
end
end
section
open _root_.PySem _root_.PySem.Builtin
open _root_.PyProof.Rows _root_.PySem.W _root_.PySem.Calls _root_.PyProof.V _root_.PySem.Spec
set_option maxRecDepth 100000
set_option maxHeartbeats 1000000
noncomputable def backCut (b : Array UInt8) (lo hi : Option Int) : Array UInt8 := Bytes.sliced b (sliceBounds lo hi (some (-1)) b.size).1 (sliceBounds lo hi (some (-1)) b.size).2.1 (-1)
theorem sb_step (lo hi : Option Int) (n : Nat) : (sliceBounds lo hi (some (-1)) n).2.2 = -1 := by first | rfl | (unfold sliceBounds; rfl)
theorem meets_back (b : Array UInt8) (t ts : Tok) (a : Addr) {l u : Value} {lo hi : Option Int} (hl : IsPart l lo) (hu : IsPart u hi) :
    Meets («bytes.__getitem__» ⟨[.bytes b t, .ref a], []⟩) (fun _ R s => s.heap.IsSliceOf a l u (.int (-1) ts) ∧ (backCut b lo hi).size ≤ sizeLine ∧ ∀ t' k, R (.ok (.ret (.bytes (backCut b lo hi) t'))) { s with toks := k }) := by
  refine .of_wp fun prog w A R s hS => ?_
  obtain ⟨⟨o, ho, hc, hd⟩, hsz, h⟩ := hS
  have hT : s.TypeIs (.ref a) "slice" := ⟨o, ho, hc⟩
  show wpAny _ _ (Bytes.payload (.bytes b t) >>= fun r => _) _ _ s
  refine wpAny_bind (wpAny_of_eq (a := b) rfl ?_)
  show wpAny _ _ (Bytes.subscript? (.ref a) >>= fun r => _) _ _ s
  refine wpAny_bind ?_
  unfold Bytes.subscript?
  refine wpAny_bind (wpAny_specialOf hT slice_no_index (wpAny_pure ?_))
  refine wpAny_bind (wpAny_typeOf hT ?_)
  show wpAny _ _ (Bytes.sliceParts (.ref a) >>= fun r => _) _ _ s
  refine wpAny_bind ?_
  unfold Bytes.sliceParts
  refine wpAny_bind (wpAny_field (x := .int (-1) ts) ho hd rfl ?_)
  kby_int
  refine wpAny_ite (KBy.ite_no (show ¬ ((rawInt (-1) == rawInt 0) = true) by decide) ?_)
  refine wpAny_bind (wpAny_field (x := l) ho hd rfl ?_)
  have go : wpAny (model prog w) A.in1 (sliceIndices (rawPart lo) (rawPart hi) (rawPart (some (-1))) b.size) (fun r s' => r = sliceBounds lo hi (some (-1)) b.size ∧ s' = s) (fun _ _ => False) s :=
    wpAny_of_eq (sliceIndices_raw lo hi (some (-1)) b.size (by simp)) ⟨rfl, rfl⟩
  cases hl <;> cases hu <;> (first
    | (kby_none; (refine wpAny_bind (wpAny_field (x := .none) ho hd rfl ?_)); kby_none)
    | (kby_none; (refine wpAny_bind (wpAny_field (x := .int _ _) ho hd rfl ?_)); kby_int)
    | (kby_int; (refine wpAny_bind (wpAny_field (x := .none) ho hd rfl ?_)); kby_none)
    | (kby_int; (refine wpAny_bind (wpAny_field (x := .int _ _) ho hd rfl ?_)); kby_int)) <;> refine wpAny_pure ?_
  all_goals
    refine wpAny_bind (wpAny_mono go (fun r s' hr => ?_) fun _ _ e => e.elim)
    obtain ⟨hr1, hr2⟩ := hr
    subst hr1 hr2
    have hst := sb_step
    refine wpAny_ite (KBy.ite_no ?_ ?_)
    · simp [hst]
    · simp only [hst]
      exact wpAny_bind (wpAny_mkBytes (wpAny_pure ⟨_, rfl, h _ _⟩) hsz)
section
variable {prog : Program} {w : World} {A : Around} {E : Value → Shared → Prop} {s : Shared} {value slice : PySem.Expr} {b res : Array UInt8} {t ts : Tok} {h₀ : Heap} {L : Addr} {m : PySem.Str → Option Value} {news : List (Addr × Obj)} {l u : Value} {lo hi : Option Int} {Q : Value → Shared → Prop}
theorem back_K (hF : Fr h₀ L s.heap m) (hN : News h₀ L s.heap news) (hl : IsPart l lo) (hu : IsPart u hi) (hr : backCut b lo hi = res) (hz : res.size ≤ 1000)
    (h : ∀ h' t' k, Fr h₀ L h' m → News h₀ L h' news → Q (.bytes res t') { s with heap := h', toks := k })
    (hs : subscripted slice false (.bytes b t) (.ref s.heap.objs.size) = operate [.ref s.heap.objs.size, .bytes b t] (getItem (.bytes b t) (.ref s.heap.objs.size)) := by with_unfolding_all rfl)
    (ht : ∀ r, letTemporaryGo value (.bytes b t) r = pure () := by intro _; with_unfolding_all rfl) :
    wpAny (model prog w) A (subscriptTail value slice (.bytes b t) (.ref s.heap.objs.size)) Q E { s with heap := s.heap.push { cls := .type "slice", data := .fields #[l, u, .int (-1) ts] } } := by
  subst hr
  exact tail_of_ItemOn ⟨"bytes", _, FB.slot_bytes_getitem.lookup, typeIs_bytes _ _ _, getItem_meets (typeIs_bytes _ _ _) (by decide) FB.slot_bytes_getitem FB.entry_bytes_getitem (FB.args_bytes_getitem_2 _ _) (meets_back b t ts _ hl hu)
    ⟨Heap.IsSliceOf.new _ _ _ _, by rw [sizeLine_eq]; omega, fun t' k => h _ _ _ (hF.push _) (News.pushKeep hN _)⟩⟩ hs ht
end
end
section
example : True := by
  w_top off
  trivial
open _root_.PySem _root_.PySem.W _root_.PyProof.Rows _root_.PySem.Calls
set_option maxRecDepth 100000
set_option maxHeartbeats 8000000

local macro_rules | `(tactic| walk_at "getMethod str") => `(tactic| (k_here; (with_reducible refine get_encode ?_)))
local macro_rules | `(tactic| walk_at "call builtin:str.encode") => `(tactic| (k_here; k_dflt (refine' call_encode9 ?hx ?h0 ?h1 ?h2 ?h3 ?h4 ?h5 ?h6 ?h7 ?h8 ?_; (case hx | h0 | h1 | h2 | h3 | h4 | h5 | h6 | h7 | h8 => assumption); k_whole); intro t' k'))
local macro_rules | `(tactic| walk_at "call builtin:bytes.decode") => `(tactic| (k_here; k_dflt (refine' call_decode9 ?h0 ?h1 ?h2 ?h3 ?h4 ?h5 ?h6 ?h7 ?h8 ?_; (case h0 | h1 | h2 | h3 | h4 | h5 | h6 | h7 | h8 => assumption); k_whole); intro t' k'))
local macro_rules | `(tactic| walk_at "call type:type") => `(tactic| (k_here; (with_reducible show wpAny _ _ (call _ [Value.bytes _ _]) _ _ _); refine call_type_of (Tx := "bytes") (typeIs_bytes _ _ _) (by decide +kernel) ?_))
local macro_rules | `(tactic| walk_at "subscriptTail") => `(tactic| (k_here; (with_reducible show wpAny _ _ (subscriptTail _ (Expr.Slice _ _ (some _) _) (Value.bytes _ _) (Value.ref _)) _ _ _); (with_reducible rename Fr _ _ _ _ => F'); (with_reducible rename News _ _ _ _ => N'); (refine' back_K (s := ⟨_, _, _, _, _⟩) F' N' ?hl ?hu ?hr ?hz ?_ ?hs ?ht; (case hl | hu => constructor); (case hr => assumption); (case hz => exact Nat.le_of_ble_eq_true rfl); (case hs => with_unfolding_all rfl); (case ht => (intro _; with_unfolding_all rfl)); k_whole); intro _ _ _ _ _; (try k_sweep)))
theorem c_exchanged (w : World) (c : Nat) (b0 b1 b2 b3 b4 b5 b6 b7 b8 : UInt8) (x : Str) (tx : Tok) (hx : x = S [c, b0.toNat, b1.toNat, b2.toNat, b3.toNat, b4.toNat, b5.toNat, b6.toNat, b7.toNat, b8.toNat]) (h0 : b0.toNat < 128) (h1 : b1.toNat < 128) (h2 : b2.toNat < 128) (h3 : b3.toNat < 128) (h4 : b4.toNat < 128) (h5 : b5.toNat < 128) (h6 : b6.toNat < 128) (h7 : b7.toNat < 128) (h8 : b8.toNat < 128) : ConG w 2 244 [.str x tx] (fun _ => True) (fun _ r _ => ∃ t, r = .str (S [c, b6.toNat, b7.toNat, b8.toNat, b3.toNat, b4.toNat, b5.toNat, b0.toNat, b1.toNat, b2.toNat]) t) := by
  have hxl : x.length = 10 := by rw [hx, S_len]; rfl
  have hsl : Txt.slice x (some 1) none = S [b0.toNat, b1.toNat, b2.toNat, b3.toNat, b4.toNat, b5.toNat, b6.toNat, b7.toNat, b8.toNat] := by rw [hx, slice_from _ _ (by simp)]; rfl
  have hit : Txt.item x 0 = S [c] := by rw [hx]; rfl
  have q1 : backCut #[b0, b1, b2, b3, b4, b5, b6, b7, b8] (some 2) none = #[b2, b1, b0] := by kernel_rfl
  have q2 : backCut #[b0, b1, b2, b3, b4, b5, b6, b7, b8] (some 5) (some 2) = #[b5, b4, b3] := by kernel_rfl
  have q3 : backCut #[b0, b1, b2, b3, b4, b5, b6, b7, b8] (some 8) (some 5) = #[b8, b7, b6] := by kernel_rfl
  have q4 : backCut #[b0, b1, b2, b3, b4, b5, b6, b7, b8] none none = #[b8, b7, b6, b5, b4, b3, b2, b1, b0] := by kernel_rfl
  unfold ConG; intros; rename_i hret
  refine G_call ?_
  k_dflt (refine' enter_defG (binds := [(Str.ofString "text", Value.str x tx)]) ?k1 ?k2 ?k3 ?k5 ?kA ?kF ?kK ?k6 ?k7 ?k8 ?k9 ?kB ?_ ?c2 ?c3 ?c4 ?c5; (case kA => exact rfl); (case kF => exact rfl); (case kK => assumption); (case k1 => k_asm); (case k2 => k_asm); (case k3 => k_asm); (case k5 => k_asm); (case k6 => k_is); (case k7 => k_is); (case k8 => ktr_room); (case k9 => exact BindsTo.of_eq rfl); (case c5 => decide); (case kB => exact locs rfl); (case c2 => exact rfl); (case c3 => exact rfl); (case c4 => exact rfl); k_whole; intro L' h' F' N' B' X' T'; (try dsimp only); (try k_fold))
  refine G_step ?_
  k_steps
  refine G_execs_cons (G_AssignSw (G_Tuple (G_args_cons (G_Call ?_))))
  k_steps
  k_dflt (refine' G_callWith_K ?k1 ?k2 ?_; (case k1 => k_asm); (case k2 => first | exact rfl | k_is); k_whole)
  k_steps
  k_dflt (refine' con_useG ?C ?k1 ?k2 ?k3 ?k4 ?k5 ?kK ?kd ?ku ?kp ?_; (case C => exact c_byteswap9 _ _ _ _ _ _ _ _ _ _ _ _); (case k1 => k_asm); (case k2 => k_asm); (case k3 => k_asm); (case k4 => k_asm); (case k5 => k_asm); (case kK => first | exact rfl | assumption); (case kd => ktr_room); (case ku => ktr_units); (case kp => trivial); k_whole; intro r9 h9 tk9 K9 F9 N9 ho9; (obtain ⟨t9, ho9⟩ := ho9; subst ho9); (try dsimp only))
  refine G_args_cons (G_Call ?_)
  k_steps
  k_dflt (refine' G_callWith_K ?k1 ?k2 ?_; (case k1 => k_asm); (case k2 => first | exact rfl | k_is); k_whole)
  k_steps
  k_dflt (refine' con_useG ?C ?k1 ?k2 ?k3 ?k4 ?k5 ?kK ?kd ?ku ?kp ?_; (case C => exact c_byteswap3 _ _ _ _ _ _ _ _ _ _ _ _); (case k1 => k_asm); (case k2 => k_asm); (case k3 => k_asm); (case k4 => k_asm); (case k5 => k_asm); (case kK => first | exact rfl | assumption); (case kd => ktr_room); (case ku => ktr_units); (case kp => trivial); k_whole; intro r9 h9 tk9 K9 F9 N9 ho9; (obtain ⟨t9, ho9⟩ := ho9; subst ho9); (try dsimp only))
  refine G_args_nil ?_
  k_steps
  refine G_step ?_
  k_steps
  · rename bne _ _ = true => hne
    simp at hne
  refine G_execs_cons (G_If (G_isTrue_Or (G_or_cons (G_of ?_))))
  k_steps
  refine G_or_cons (G_of ?_)
  k_steps
  all_goals try (rename bne _ _ = true => hne; simp at hne; done)
  refine G_or_cons (G_isTrue_cmp (G_Call ?_))
  k_steps
  k_dflt (refine' G_callWith_K ?k1 ?k2 ?_; (case k1 => k_asm); (case k2 => first | exact rfl | k_is); k_whole)
  k_steps
  k_dflt (refine' con_useG ?C ?k1 ?k2 ?k3 ?k4 ?k5 ?kK ?kd ?ku ?kp ?_; (case C => exact c_byteswap9 _ _ _ _ _ _ _ _ _ _ _ _); (case k1 => k_asm); (case k2 => k_asm); (case k3 => k_asm); (case k4 => k_asm); (case k5 => k_asm); (case kK => first | exact rfl | assumption); (case kd => ktr_room); (case ku => ktr_units); (case kp => trivial); k_whole; intro r9 h9 tk9 K9 F9 N9 ho9; (obtain ⟨t9, ho9⟩ := ho9; subst ho9); (try dsimp only))
  k_steps
  refine (show (if _ then _ else _) from ?_)
  rw [if_neg (by simp)]
  refine G_or_cons (G_isTrue_cmp (G_Call ?_))
  k_steps
  k_dflt (refine' G_callWith_K ?k1 ?k2 ?_; (case k1 => k_asm); (case k2 => first | exact rfl | k_is); k_whole)
  k_steps
  k_dflt (refine' con_useG ?C ?k1 ?k2 ?k3 ?k4 ?k5 ?kK ?kd ?ku ?kp ?_; (case C => exact c_byteswap3 _ _ _ _ _ _ _ _ _ _ _ _); (case k1 => k_asm); (case k2 => k_asm); (case k3 => k_asm); (case k4 => k_asm); (case k5 => k_asm); (case kK => first | exact rfl | assumption); (case kd => ktr_room); (case ku => ktr_units); (case kp => trivial); k_whole; intro r9 h9 tk9 K9 F9 N9 ho9; (obtain ⟨t9, ho9⟩ := ho9; subst ho9); (try dsimp only))
  k_steps
  refine (show (if _ then _ else _) from ?_)
  rw [if_neg (by simp)]
  refine G_or_nil ?_
  rw [if_neg Bool.false_ne_true]
  refine G_of (wpAny_execs_nil ?_)
  refine G_execs_cons (G_Return (G_BinOp_right ?_))
  k_steps
  refine G_MethodCall (G_Call ?_)
  k_steps
  k_dflt (refine' G_callWith_K ?k1 ?k2 ?_; (case k1 => k_asm); (case k2 => first | exact rfl | k_is); k_whole)
  k_steps
  k_dflt (refine' con_useG ?C ?k1 ?k2 ?k3 ?k4 ?k5 ?kK ?kd ?ku ?kp ?_; (case C => exact c_byteswap3 _ _ _ _ _ _ _ _ _ _ _ _); (case k1 => k_asm); (case k2 => k_asm); (case k3 => k_asm); (case k4 => k_asm); (case k5 => k_asm); (case kK => first | exact rfl | assumption); (case kd => ktr_room); (case ku => ktr_units); (case kp => trivial); k_whole; intro r9 h9 tk9 K9 F9 N9 ho9; (obtain ⟨t9, ho9⟩ := ho9; subst ho9); (try dsimp only))
  k_steps
  exact hret _ _ _ (Fr.keep (by k_asm)) ⟨_, by rw [hit, S_append]; rfl⟩
end
section
example : True := by
  w_top off
  trivial
open _root_.PySem _root_.PySem.W _root_.PyProof.Rows _root_.PySem.Calls
set_option maxRecDepth 100000
set_option maxHeartbeats 8000000

theorem fin_bits (k : Fin 3) {b : Int} (hb : 0 ≤ b ∧ b < 512) : Builtin.bitAnd (baseOf k + b) 4095 = b ∧ Builtin.bitAnd (baseOf k + b) 61440 = baseOf k := by
  obtain ⟨n, rfl⟩ := Int.eq_ofNat_of_zero_le hb.1
  exact bits_all ⟨n, by omega⟩ k
theorem fin_text (k : Fin 3) {b : Int} (hb : 0 ≤ b ∧ b < 512) : Txt.join (Str.ofString "") (fmL (baseOf k + b)) = Txt.item (Str.ofString "d-l") (k.val : Int) ++ Txt.join (Str.ofString "") (tx9 b) := by
  obtain ⟨n, rfl⟩ := Int.eq_ofNat_of_zero_le hb.1
  exact text_all ⟨n, by omega⟩ k
theorem fin_codes (k : Fin 3) {b : Int} (hb : 0 ≤ b ∧ b < 512) : Txt.item (Str.ofString "d-l") (k.val : Int) ++ Txt.join (Str.ofString "") (tx9 b) = S (letter k :: (sgs b).map (·.toNat)) := by
  obtain ⟨n, rfl⟩ := Int.eq_ofNat_of_zero_le hb.1
  exact codes_all ⟨n, by omega⟩ k
theorem fin_turn {b : Int} (hb : 0 ≤ b ∧ b < 512) : 0 ≤ turnB b ∧ turnB b < 512 ∧ sgs (turnB b) = (match sgs b with | [b0, b1, b2, b3, b4, b5, b6, b7, b8] => [b6, b7, b8, b3, b4, b5, b0, b1, b2] | l => l) := by
  obtain ⟨n, rfl⟩ := Int.eq_ofNat_of_zero_le hb.1
  exact turn_all ⟨n, by omega⟩
theorem c_mode0 (w : World) (b : Int) (tk tb : Tok) (hb : 0 ≤ b ∧ b < 512) : Con w 1 232 [.int 0 tk, .int b tb] (fun _ => True) (fun _ r _ => ∃ t, r = .int (16384 + b) t) := c_mode w 0 b tk tb (by decide) hb
theorem c_mode1 (w : World) (b : Int) (tk tb : Tok) (hb : 0 ≤ b ∧ b < 512) : Con w 1 232 [.int 1 tk, .int b tb] (fun _ => True) (fun _ r _ => ∃ t, r = .int (32768 + b) t) := c_mode w 1 b tk tb (by decide) hb
theorem c_mode2 (w : World) (b : Int) (tk tb : Tok) (hb : 0 ≤ b ∧ b < 512) : Con w 1 232 [.int 2 tk, .int b tb] (fun _ => True) (fun _ r _ => ∃ t, r = .int (40960 + b) t) := c_mode w 2 b tk tb (by decide) hb
theorem c_isdir0 (w : World) (b : Int) (tx : Tok) (hb : 0 ≤ b ∧ b < 512) : Con w 2 164 [.int (16384 + b) tx] (fun _ => True) (fun _ r _ => r = .bool true) := by
  have := c_isdir w (16384 + b) tx
  have hF : Builtin.bitAnd (16384 + b) 61440 = 16384 := (fin_bits ⟨0, by decide⟩ hb).2
  rw [hF] at this
  exact this
theorem c_isreg0 (w : World) (b : Int) (tx : Tok) (hb : 0 ≤ b ∧ b < 512) : Con w 2 171 [.int (16384 + b) tx] (fun _ => True) (fun _ r _ => r = .bool false) := by
  have := c_isreg w (16384 + b) tx
  have hF : Builtin.bitAnd (16384 + b) 61440 = 16384 := (fin_bits ⟨0, by decide⟩ hb).2
  rw [hF] at this
  exact this
theorem c_islnk0 (w : World) (b : Int) (tx : Tok) (hb : 0 ≤ b ∧ b < 512) : Con w 2 178 [.int (16384 + b) tx] (fun _ => True) (fun _ r _ => r = .bool false) := by
  have := c_islnk w (16384 + b) tx
  have hF : Builtin.bitAnd (16384 + b) 61440 = 16384 := (fin_bits ⟨0, by decide⟩ hb).2
  rw [hF] at this
  exact this
theorem c_imode0 (w : World) (b : Int) (tx : Tok) (hb : 0 ≤ b ∧ b < 512) : Con w 1 150 [.int (16384 + b) tx] (fun _ => True) (fun _ r _ => ∃ t, r = .int b t) := by
  have := c_imode w (16384 + b) tx
  have hF : Builtin.bitAnd (16384 + b) 4095 = b := (fin_bits ⟨0, by decide⟩ hb).1
  rw [hF] at this
  exact this
theorem c_ifmt0 (w : World) (b : Int) (tx : Tok) (hb : 0 ≤ b ∧ b < 512) : Con w 1 157 [.int (16384 + b) tx] (fun _ => True) (fun _ r _ => ∃ t, r = .int 16384 t) := by
  have := c_ifmt w (16384 + b) tx
  have hF : Builtin.bitAnd (16384 + b) 61440 = 16384 := (fin_bits ⟨0, by decide⟩ hb).2
  rw [hF] at this
  exact this
theorem c_filemode0 (w : World) (b : Int) (tx : Tok) (hb : 0 ≤ b ∧ b < 512) : Con w 3 218 [.int (16384 + b) tx] (fun _ => True) (fun _ r _ => ∃ t, r = .str (S (100 :: (sgs b).map (·.toNat))) t) := by
  have := c_filemode w (16384 + b) tx
  have hF : Txt.join (Str.ofString "") (fmL (16384 + b)) = _ := fin_text ⟨0, by decide⟩ hb
  rw [hF, fin_codes ⟨0, by decide⟩ hb] at this
  exact this
theorem c_textS0 (w : World) (b : Int) (tk tb : Tok) (hb : 0 ≤ b ∧ b < 512) : Con w 1 237 [.int 0 tk, .int b tb] (fun _ => True) (fun _ r _ => ∃ t, r = .str (S (100 :: (sgs b).map (·.toNat))) t) := by
  have := c_text0 w b tk tb hb
  rw [show Txt.item (Str.ofString "d-l") 0 ++ _ = _ from fin_codes ⟨0, by decide⟩ hb] at this
  exact this
theorem c_isdir1 (w : World) (b : Int) (tx : Tok) (hb : 0 ≤ b ∧ b < 512) : Con w 2 164 [.int (32768 + b) tx] (fun _ => True) (fun _ r _ => r = .bool false) := by
  have := c_isdir w (32768 + b) tx
  have hF : Builtin.bitAnd (32768 + b) 61440 = 32768 := (fin_bits ⟨1, by decide⟩ hb).2
  rw [hF] at this
  exact this
theorem c_isreg1 (w : World) (b : Int) (tx : Tok) (hb : 0 ≤ b ∧ b < 512) : Con w 2 171 [.int (32768 + b) tx] (fun _ => True) (fun _ r _ => r = .bool true) := by
  have := c_isreg w (32768 + b) tx
  have hF : Builtin.bitAnd (32768 + b) 61440 = 32768 := (fin_bits ⟨1, by decide⟩ hb).2
  rw [hF] at this
  exact this
theorem c_islnk1 (w : World) (b : Int) (tx : Tok) (hb : 0 ≤ b ∧ b < 512) : Con w 2 178 [.int (32768 + b) tx] (fun _ => True) (fun _ r _ => r = .bool false) := by
  have := c_islnk w (32768 + b) tx
  have hF : Builtin.bitAnd (32768 + b) 61440 = 32768 := (fin_bits ⟨1, by decide⟩ hb).2
  rw [hF] at this
  exact this
theorem c_imode1 (w : World) (b : Int) (tx : Tok) (hb : 0 ≤ b ∧ b < 512) : Con w 1 150 [.int (32768 + b) tx] (fun _ => True) (fun _ r _ => ∃ t, r = .int b t) := by
  have := c_imode w (32768 + b) tx
  have hF : Builtin.bitAnd (32768 + b) 4095 = b := (fin_bits ⟨1, by decide⟩ hb).1
  rw [hF] at this
  exact this
theorem c_ifmt1 (w : World) (b : Int) (tx : Tok) (hb : 0 ≤ b ∧ b < 512) : Con w 1 157 [.int (32768 + b) tx] (fun _ => True) (fun _ r _ => ∃ t, r = .int 32768 t) := by
  have := c_ifmt w (32768 + b) tx
  have hF : Builtin.bitAnd (32768 + b) 61440 = 32768 := (fin_bits ⟨1, by decide⟩ hb).2
  rw [hF] at this
  exact this
theorem c_filemode1 (w : World) (b : Int) (tx : Tok) (hb : 0 ≤ b ∧ b < 512) : Con w 3 218 [.int (32768 + b) tx] (fun _ => True) (fun _ r _ => ∃ t, r = .str (S (45 :: (sgs b).map (·.toNat))) t) := by
  have := c_filemode w (32768 + b) tx
  have hF : Txt.join (Str.ofString "") (fmL (32768 + b)) = _ := fin_text ⟨1, by decide⟩ hb
  rw [hF, fin_codes ⟨1, by decide⟩ hb] at this
  exact this
theorem c_textS1 (w : World) (b : Int) (tk tb : Tok) (hb : 0 ≤ b ∧ b < 512) : Con w 1 237 [.int 1 tk, .int b tb] (fun _ => True) (fun _ r _ => ∃ t, r = .str (S (45 :: (sgs b).map (·.toNat))) t) := by
  have := c_text1 w b tk tb hb
  rw [show Txt.item (Str.ofString "d-l") 1 ++ _ = _ from fin_codes ⟨1, by decide⟩ hb] at this
  exact this
theorem c_isdir2 (w : World) (b : Int) (tx : Tok) (hb : 0 ≤ b ∧ b < 512) : Con w 2 164 [.int (40960 + b) tx] (fun _ => True) (fun _ r _ => r = .bool false) := by
  have := c_isdir w (40960 + b) tx
  have hF : Builtin.bitAnd (40960 + b) 61440 = 40960 := (fin_bits ⟨2, by decide⟩ hb).2
  rw [hF] at this
  exact this
theorem c_isreg2 (w : World) (b : Int) (tx : Tok) (hb : 0 ≤ b ∧ b < 512) : Con w 2 171 [.int (40960 + b) tx] (fun _ => True) (fun _ r _ => r = .bool false) := by
  have := c_isreg w (40960 + b) tx
  have hF : Builtin.bitAnd (40960 + b) 61440 = 40960 := (fin_bits ⟨2, by decide⟩ hb).2
  rw [hF] at this
  exact this
theorem c_islnk2 (w : World) (b : Int) (tx : Tok) (hb : 0 ≤ b ∧ b < 512) : Con w 2 178 [.int (40960 + b) tx] (fun _ => True) (fun _ r _ => r = .bool true) := by
  have := c_islnk w (40960 + b) tx
  have hF : Builtin.bitAnd (40960 + b) 61440 = 40960 := (fin_bits ⟨2, by decide⟩ hb).2
  rw [hF] at this
  exact this
theorem c_imode2 (w : World) (b : Int) (tx : Tok) (hb : 0 ≤ b ∧ b < 512) : Con w 1 150 [.int (40960 + b) tx] (fun _ => True) (fun _ r _ => ∃ t, r = .int b t) := by
  have := c_imode w (40960 + b) tx
  have hF : Builtin.bitAnd (40960 + b) 4095 = b := (fin_bits ⟨2, by decide⟩ hb).1
  rw [hF] at this
  exact this
theorem c_ifmt2 (w : World) (b : Int) (tx : Tok) (hb : 0 ≤ b ∧ b < 512) : Con w 1 157 [.int (40960 + b) tx] (fun _ => True) (fun _ r _ => ∃ t, r = .int 40960 t) := by
  have := c_ifmt w (40960 + b) tx
  have hF : Builtin.bitAnd (40960 + b) 61440 = 40960 := (fin_bits ⟨2, by decide⟩ hb).2
  rw [hF] at this
  exact this
theorem c_filemode2 (w : World) (b : Int) (tx : Tok) (hb : 0 ≤ b ∧ b < 512) : Con w 3 218 [.int (40960 + b) tx] (fun _ => True) (fun _ r _ => ∃ t, r = .str (S (108 :: (sgs b).map (·.toNat))) t) := by
  have := c_filemode w (40960 + b) tx
  have hF : Txt.join (Str.ofString "") (fmL (40960 + b)) = _ := fin_text ⟨2, by decide⟩ hb
  rw [hF, fin_codes ⟨2, by decide⟩ hb] at this
  exact this
theorem c_textS2 (w : World) (b : Int) (tk tb : Tok) (hb : 0 ≤ b ∧ b < 512) : Con w 1 237 [.int 2 tk, .int b tb] (fun _ => True) (fun _ r _ => ∃ t, r = .str (S (108 :: (sgs b).map (·.toNat))) t) := by
  have := c_text2 w b tk tb hb
  rw [show Txt.item (Str.ofString "d-l") 2 ++ _ = _ from fin_codes ⟨2, by decide⟩ hb] at this
  exact this
theorem sg_lt (b p : Int) (c : UInt8) (hc : c.toNat < 128) : (sg b p c).toNat < 128 := by
  unfold sg
  split
  · exact hc
  · decide
theorem c_exS (w : World) (c : Nat) (b : Int) (tx : Tok) (hb : 0 ≤ b ∧ b < 512) : ConG w 2 244 [.str (S (c :: (sgs b).map (·.toNat))) tx] (fun _ => True) (fun _ r _ => ∃ t, r = .str (S (c :: (sgs (turnB b)).map (·.toNat))) t) := by
  rw [(fin_turn hb).2.2]
  exact c_exchanged w c _ _ _ _ _ _ _ _ _ _ tx rfl (sg_lt _ _ _ (by decide)) (sg_lt _ _ _ (by decide)) (sg_lt _ _ _ (by decide)) (sg_lt _ _ _ (by decide)) (sg_lt _ _ _ (by decide)) (sg_lt _ _ _ (by decide)) (sg_lt _ _ _ (by decide)) (sg_lt _ _ _ (by decide)) (sg_lt _ _ _ (by decide))
local macro_rules | `(tactic| walk_at "compareOp NotEq ref ref") => `(tactic| (k_here; k_dflt (refine' ne_dataH ?ra ?rb ?ha ?hb ?hu ?_; (case ra | rb => ke_read); (case ha | hb => rfl); (case hu => ktr_units); k_whole)))
local macro_rules | `(tactic| walk_at "call ref") => `(tactic| (k_here; k_dflt (refine' con_use ?C ?k1 ?k2 ?k3 ?k4 ?k5 ?kK ?kd ?ku ?kp ?_; (case C => first | exact c_mode0 _ _ _ _ (by assumption) | exact c_isdir0 _ _ _ (by assumption) | exact c_isreg0 _ _ _ (by assumption) | exact c_islnk0 _ _ _ (by assumption) | exact c_imode0 _ _ _ (by assumption) | exact c_ifmt0 _ _ _ (by assumption) | exact c_filemode0 _ _ _ (by assumption) | exact c_textS0 _ _ _ _ (by assumption) | exact c_mode1 _ _ _ _ (by assumption) | exact c_isdir1 _ _ _ (by assumption) | exact c_isreg1 _ _ _ (by assumption) | exact c_islnk1 _ _ _ (by assumption) | exact c_imode1 _ _ _ (by assumption) | exact c_ifmt1 _ _ _ (by assumption) | exact c_filemode1 _ _ _ (by assumption) | exact c_textS1 _ _ _ _ (by assumption) | exact c_mode2 _ _ _ _ (by assumption) | exact c_isdir2 _ _ _ (by assumption) | exact c_isreg2 _ _ _ (by assumption) | exact c_islnk2 _ _ _ (by assumption) | exact c_imode2 _ _ _ (by assumption) | exact c_ifmt2 _ _ _ (by assumption) | exact c_filemode2 _ _ _ (by assumption) | exact c_textS2 _ _ _ _ (by assumption)); w_left; intro r9 h9 tk9 K9 F9 N9 ho9; (first | subst ho9 | (obtain ⟨t9, ho9⟩ := ho9; subst ho9)); (try dsimp only))))
theorem c_right0 (w : World) (b : Int) (tk tb : Tok) (hb : 0 ≤ b ∧ b < 512) : ConG w 20 249 [.int 0 tk, .int b tb] (fun _ => True) (fun _ r _ => r = .bool true) := by
  have ht : 0 ≤ turnB b ∧ turnB b < 512 := ⟨(fin_turn hb).1, (fin_turn hb).2.1⟩
  have hI : Builtin.bitAnd (16384 + b) 4095 = b := (fin_bits ⟨0, by decide⟩ hb).1
  have hF : Builtin.bitAnd (16384 + b) 61440 = 16384 := (fin_bits ⟨0, by decide⟩ hb).2
  unfold ConG; intros; rename_i hret
  refine G_call ?_
  k_dflt (refine' enter_defG (binds := [(Str.ofString "kind", Value.int 0 tk), (Str.ofString "bits", Value.int b tb)]) ?k1 ?k2 ?k3 ?k5 ?kA ?kF ?kK ?k6 ?k7 ?k8 ?k9 ?kB ?_ ?c2 ?c3 ?c4 ?c5; (case kA => exact rfl); (case kF => exact rfl); (case kK => assumption); (case k1 => k_asm); (case k2 => k_asm); (case k3 => k_asm); (case k5 => k_asm); (case k6 => k_is); (case k7 => k_is); (case k8 => ktr_room); (case k9 => exact BindsTo.of_eq rfl); (case c5 => decide); (case kB => exact locs rfl); (case c2 => exact rfl); (case c3 => exact rfl); (case c4 => exact rfl); k_whole; intro L' h' F' N' B' X' T'; (try dsimp only); (try k_fold))
  refine G_step ?_
  k_steps
  refine G_step ?_
  k_steps
  refine G_step ?_
  k_steps
  refine G_step ?_
  k_steps
  all_goals try (rename @Ne Int _ _ => hne; omega)
  all_goals try (rename bne _ _ = true => hne; simp at hne; done)
  refine G_execs_cons (G_Return (G_Compare2 (G_Call ?_)))
  k_steps
  k_dflt (refine' G_callWith_K ?k1 ?k2 ?_; (case k1 => k_asm); (case k2 => first | exact rfl | k_is); k_whole)
  k_steps
  k_dflt (refine' con_useG ?C ?k1 ?k2 ?k3 ?k4 ?k5 ?kK ?kd ?ku ?kp ?_; (case C => exact c_exS _ _ _ _ (by assumption)); (case k1 => k_asm); (case k2 => k_asm); (case k3 => k_asm); (case k4 => k_asm); (case k5 => k_asm); (case kK => first | exact rfl | assumption); (case kd => ktr_room); (case ku => ktr_units); (case kp => trivial); k_whole; intro r9 h9 tk9 K9 F9 N9 ho9; (obtain ⟨t9, ho9⟩ := ho9; subst ho9); (try dsimp only))
  k_steps
  · exact hret _ _ _ (Fr.keep (by k_asm)) (by simp)
  · rename _ = false => hne
    exact absurd (show (S (_ :: (sgs (turnB b)).map (·.toNat)) == S (_ :: (sgs (turnB b)).map (·.toNat))) = false from hne) (by simp)
theorem c_right1 (w : World) (b : Int) (tk tb : Tok) (hb : 0 ≤ b ∧ b < 512) : ConG w 20 249 [.int 1 tk, .int b tb] (fun _ => True) (fun _ r _ => r = .bool true) := by
  have ht : 0 ≤ turnB b ∧ turnB b < 512 := ⟨(fin_turn hb).1, (fin_turn hb).2.1⟩
  have hI : Builtin.bitAnd (32768 + b) 4095 = b := (fin_bits ⟨1, by decide⟩ hb).1
  have hF : Builtin.bitAnd (32768 + b) 61440 = 32768 := (fin_bits ⟨1, by decide⟩ hb).2
  unfold ConG; intros; rename_i hret
  refine G_call ?_
  k_dflt (refine' enter_defG (binds := [(Str.ofString "kind", Value.int 1 tk), (Str.ofString "bits", Value.int b tb)]) ?k1 ?k2 ?k3 ?k5 ?kA ?kF ?kK ?k6 ?k7 ?k8 ?k9 ?kB ?_ ?c2 ?c3 ?c4 ?c5; (case kA => exact rfl); (case kF => exact rfl); (case kK => assumption); (case k1 => k_asm); (case k2 => k_asm); (case k3 => k_asm); (case k5 => k_asm); (case k6 => k_is); (case k7 => k_is); (case k8 => ktr_room); (case k9 => exact BindsTo.of_eq rfl); (case c5 => decide); (case kB => exact locs rfl); (case c2 => exact rfl); (case c3 => exact rfl); (case c4 => exact rfl); k_whole; intro L' h' F' N' B' X' T'; (try dsimp only); (try k_fold))
  refine G_step ?_
  k_steps
  refine G_step ?_
  k_steps
  refine G_step ?_
  k_steps
  refine G_step ?_
  k_steps
  all_goals try (rename @Ne Int _ _ => hne; omega)
  all_goals try (rename bne _ _ = true => hne; simp at hne; done)
  refine G_execs_cons (G_Return (G_Compare2 (G_Call ?_)))
  k_steps
  k_dflt (refine' G_callWith_K ?k1 ?k2 ?_; (case k1 => k_asm); (case k2 => first | exact rfl | k_is); k_whole)
  k_steps
  k_dflt (refine' con_useG ?C ?k1 ?k2 ?k3 ?k4 ?k5 ?kK ?kd ?ku ?kp ?_; (case C => exact c_exS _ _ _ _ (by assumption)); (case k1 => k_asm); (case k2 => k_asm); (case k3 => k_asm); (case k4 => k_asm); (case k5 => k_asm); (case kK => first | exact rfl | assumption); (case kd => ktr_room); (case ku => ktr_units); (case kp => trivial); k_whole; intro r9 h9 tk9 K9 F9 N9 ho9; (obtain ⟨t9, ho9⟩ := ho9; subst ho9); (try dsimp only))
  k_steps
  · exact hret _ _ _ (Fr.keep (by k_asm)) (by simp)
  · rename _ = false => hne
    exact absurd (show (S (_ :: (sgs (turnB b)).map (·.toNat)) == S (_ :: (sgs (turnB b)).map (·.toNat))) = false from hne) (by simp)
theorem c_right2 (w : World) (b : Int) (tk tb : Tok) (hb : 0 ≤ b ∧ b < 512) : ConG w 20 249 [.int 2 tk, .int b tb] (fun _ => True) (fun _ r _ => r = .bool true) := by
  have ht : 0 ≤ turnB b ∧ turnB b < 512 := ⟨(fin_turn hb).1, (fin_turn hb).2.1⟩
  have hI : Builtin.bitAnd (40960 + b) 4095 = b := (fin_bits ⟨2, by decide⟩ hb).1
  have hF : Builtin.bitAnd (40960 + b) 61440 = 40960 := (fin_bits ⟨2, by decide⟩ hb).2
  unfold ConG; intros; rename_i hret
  refine G_call ?_
  k_dflt (refine' enter_defG (binds := [(Str.ofString "kind", Value.int 2 tk), (Str.ofString "bits", Value.int b tb)]) ?k1 ?k2 ?k3 ?k5 ?kA ?kF ?kK ?k6 ?k7 ?k8 ?k9 ?kB ?_ ?c2 ?c3 ?c4 ?c5; (case kA => exact rfl); (case kF => exact rfl); (case kK => assumption); (case k1 => k_asm); (case k2 => k_asm); (case k3 => k_asm); (case k5 => k_asm); (case k6 => k_is); (case k7 => k_is); (case k8 => ktr_room); (case k9 => exact BindsTo.of_eq rfl); (case c5 => decide); (case kB => exact locs rfl); (case c2 => exact rfl); (case c3 => exact rfl); (case c4 => exact rfl); k_whole; intro L' h' F' N' B' X' T'; (try dsimp only); (try k_fold))
  refine G_step ?_
  k_steps
  refine G_step ?_
  k_steps
  refine G_step ?_
  k_steps
  refine G_step ?_
  k_steps
  all_goals try (rename @Ne Int _ _ => hne; omega)
  all_goals try (rename bne _ _ = true => hne; simp at hne; done)
  refine G_execs_cons (G_Return (G_Compare2 (G_Call ?_)))
  k_steps
  k_dflt (refine' G_callWith_K ?k1 ?k2 ?_; (case k1 => k_asm); (case k2 => first | exact rfl | k_is); k_whole)
  k_steps
  k_dflt (refine' con_useG ?C ?k1 ?k2 ?k3 ?k4 ?k5 ?kK ?kd ?ku ?kp ?_; (case C => exact c_exS _ _ _ _ (by assumption)); (case k1 => k_asm); (case k2 => k_asm); (case k3 => k_asm); (case k4 => k_asm); (case k5 => k_asm); (case kK => first | exact rfl | assumption); (case kd => ktr_room); (case ku => ktr_units); (case kp => trivial); k_whole; intro r9 h9 tk9 K9 F9 N9 ho9; (obtain ⟨t9, ho9⟩ := ho9; subst ho9); (try dsimp only))
  k_steps
  · exact hret _ _ _ (Fr.keep (by k_asm)) (by simp)
  · rename _ = false => hne
    exact absurd (show (S (_ :: (sgs (turnB b)).map (·.toNat)) == S (_ :: (sgs (turnB b)).map (·.toNat))) = false from hne) (by simp)
end
section
open _root_.PySem _root_.PySem.W _root_.PyProof.Rows
set_option maxRecDepth 100000
set_option maxHeartbeats 1000000
/-- what join lays: the folder's path, a full stop, x, .. and the name -/
noncomputable def laidOf (rs : List Row) (j : Nat) (r : Row) : List Nat := (if r.a = 0 then [] else match rs[r.a]? with | some u => u.p | none => []) ++ [47, 46, 47, 120, 47, 46, 46, 47] ++ nameOf j
theorem name_ok (j : Nat) : (S (nameOf j)).length ≤ 1000 ∧ Txt.startswith (S (nameOf j)) (Str.ofString "/") = false := by
  unfold nameOf
  rw [slash_is, starts_one, S_len]
  split
  · exact ⟨by decide, by decide⟩
  · refine ⟨by simp, ?_⟩
    simp; omega
theorem c_joinrow (w : World) (rs : List Row) (T : TreeOk rs) {j : Nat} {r u : Row} (hr : rs[j]? = some r) (hu : rs[r.a]? = some u) (tx t1 t2 t3 ty : Tok) :
    Con w 2 122 [.str (S u.p) tx, .str (Str.ofString ".") t1, .str (Str.ofString "x") t2, .str (Str.ofString "..") t3, .str (S (nameOf j)) ty] (fun _ => True) (fun _ v _ => ∃ t, v = .str (S (laidOf rs j r)) t) := by
  by_cases hz : r.a = 0
  · have hu' := hu
    rw [hz, T.root] at hu'
    cases hu'
    have := c_join0 w (S (nameOf j)) tx t1 t2 t3 ty (name_ok j).1 (name_ok j).2
    rw [slash_is, S_append] at this
    unfold laidOf
    rw [if_pos hz]
    exact this
  · have hl := row_len T hu
    have := c_join w (S u.p) (S (nameOf j)) tx t1 t2 t3 ty (by rw [S_len]; omega) (by rw [S_len]; intro e; exact hl.2 (List.eq_nil_of_length_eq_zero e)) (name_ok j).1 (by
      rw [slash_is, ends_one, row_last T hu, if_neg hz]; simp; omega) (name_ok j).2
    rw [S_append, S_append] at this
    unfold laidOf
    rw [if_neg hz, hu]
    exact this
theorem laid_len {rs : List Row} (T : TreeOk rs) {j : Nat} {r : Row} : (laidOf rs j r).length ≤ 100 := by
  unfold laidOf nameOf
  rw [List.length_append, List.length_append]
  have h1 : (if r.a = 0 then ([] : List Nat) else match rs[r.a]? with | some u => u.p | none => []).length ≤ 40 := by
    split
    · simp
    · cases hu : rs[r.a]? with
      | none => simp
      | some u => exact (row_len T hu).1
  have h2 : (if j = 0 then ([] : List Nat) else [96 + j]).length ≤ 1 := by split <;> simp
  simp only [List.length_cons, List.length_nil]
  omega
/-- the parts of what join lays -/
theorem laid_parts {rs : List Row} (T : TreeOk rs) {j : Nat} {r : Row} (hr : rs[j]? = some r) : ∃ cs : List Nat, (∀ c ∈ cs, 97 ≤ c ∧ c ≤ 106) ∧ cs.length ≤ 10 ∧ (j = 0 → cs = []) ∧
    laidOf rs j r = 47 :: jn 47 ((cs.map fun c => [c]) ++ [[46], [120], [46, 46], nameOf j]) ∧ r.p = (if j = 0 then [47] else pth (cs ++ [96 + j])) := by
  have hj := row_lt T hr
  by_cases h0 : 0 < j
  · obtain ⟨cs, h1, h2, h3, ⟨u, hu, hup⟩, h5⟩ := row_letters T hr h0
    refine ⟨cs, h1, by omega, fun h => by omega, ?_, by rw [if_neg (by omega)]; exact h3⟩
    have key : ∀ cs : List Nat, pth cs ++ [47, 46, 47, 120, 47, 46, 46, 47] ++ nameOf j = 47 :: jn 47 ((cs.map fun c => [c]) ++ [[46], [120], [46, 46], nameOf j]) := by
      intro cs
      induction cs with
      | nil => rfl
      | cons c r ih =>
        rw [show pth (c :: r) = [47, c] ++ pth r from rfl, List.append_assoc, List.append_assoc, ← List.append_assoc (pth r), ih]
        cases r <;> rfl
    unfold laidOf
    by_cases hz : r.a = 0
    · have := h5.mp hz
      subst this
      rw [if_pos hz]
      exact key []
    · rw [if_neg hz, hu]
      have hne : cs ≠ [] := fun e => hz (h5.mpr e)
      simp only
      rw [hup, if_neg hne]
      exact key cs
  · have : j = 0 := by omega
    subst this
    have hr' := hr
    rw [T.root] at hr'
    cases hr'
    exact ⟨[], by simp, by simp, fun _ => rfl, rfl, rfl⟩
theorem np1 (st : TS) (c : Nat) (k : Tok) (hc : 97 ≤ c ∧ c ≤ 106) : npush st (S [c], k) = st ++ [(S [c], k)] := by
  have h1 : ¬ ((S [c]).length : Int) = 0 := by rw [S_len]; simp
  have h2 : (S [c] == Str.ofString ".") = false := by
    rw [show Str.ofString "." = S [46] by decide +kernel]
    simp only [beq_eq_false_iff_ne, ne_eq, S_inj, List.cons.injEq, and_true]; omega
  have h3 : (S [c] != Str.ofString "..") = true := by
    rw [show Str.ofString ".." = S [46, 46] by decide +kernel]
    simp only [bne_iff_ne, ne_eq, S_inj]; simp
  exact npush_add h1 h2 h3
theorem np_letters : ∀ (cs : List Nat) (l st : TS), (∀ c ∈ cs, 97 ≤ c ∧ c ≤ 106) → l.map (·.1) = (cs.map fun c => S [c]) → l.foldl npush st = st ++ l
  | [], [], st, _, _ => by simp
  | [], _ :: _, _, _, h => by simp at h
  | _ :: _, [], _, _, h => by simp at h
  | c :: cs, (x, k) :: l, st, hc, h => by
    simp only [List.map_cons, List.cons.injEq] at h
    obtain ⟨rfl, h⟩ := h
    rw [List.foldl_cons, np1 st c k (hc c (by simp)), np_letters cs l _ (fun c hc' => hc c (by simp [hc'])) h]
    simp
theorem split_map {l : TS} {xs ys : List Str} (h : l.map (·.1) = xs ++ ys) : ∃ l1 l2, l = l1 ++ l2 ∧ l1.map (·.1) = xs ∧ l2.map (·.1) = ys := by
  obtain ⟨l1, l2, rfl, h1, h2⟩ := List.map_eq_append_iff.mp h
  exact ⟨l1, l2, rfl, h1, h2⟩
/-- made straight: the row's own path -/
theorem c_normrow (w : World) (rs : List Row) (T : TreeOk rs) {j : Nat} {r : Row} (hr : rs[j]? = some r) (tx : Tok) :
    Con w 3 143 [.str (S (laidOf rs j r)) tx] (fun _ => True) (fun _ v _ => ∃ t, v = .str (S r.p) t) := by
  obtain ⟨cs, h1, h2, h3, h4, h5⟩ := laid_parts T hr
  have hj := row_lt T hr
  have hfree : ∀ p ∈ (cs.map fun c => [c]) ++ [[46], [120], [46, 46], nameOf j], (47 : Nat) ∉ p := by
    intro p hp
    rcases List.mem_append.mp hp with hp | hp
    · obtain ⟨c, hc, rfl⟩ := List.mem_map.mp hp
      have := h1 c hc
      simp; omega
    · simp only [List.mem_cons, List.not_mem_nil, or_false] at hp
      rcases hp with rfl | rfl | rfl | rfl
      · simp
      · simp
      · simp
      · unfold nameOf; split
        · simp
        · simp; omega
  have hsplit : Txt.split (S (jn 47 ((cs.map fun c => [c]) ++ [[46], [120], [46, 46], nameOf j]))) (Str.ofString "/") = (cs.map fun c => S [c]) ++ [S [46], S [120], S [46, 46], S (nameOf j)] := by
    rw [slash_is, split_jn 47 _ (by simp) hfree]
    simp
  have cut : ∀ l : TS, l.map (·.1) = (cs.map fun c => S [c]) ++ [S [46], S [120], S [46, 46], S (nameOf j)] → ∃ l1 k1 k2 k3 k4, l = l1 ++ [(S [46], k1), (S [120], k2), (S [46, 46], k3), (S (nameOf j), k4)] ∧ l1.map (·.1) = cs.map fun c => S [c] := by
    intro l hl
    obtain ⟨l1, l2, rfl, e1, e2⟩ := split_map hl
    match l2, e2 with
    | [(a, k1), (b, k2), (c, k3), (d, k4)], e2 =>
      simp only [List.map_cons, List.map_nil, List.cons.injEq, and_true] at e2
      obtain ⟨rfl, rfl, rfl, rfl⟩ := e2
      exact ⟨l1, k1, k2, k3, k4, rfl, e1⟩
  have hdot : S [46] = Str.ofString "." := by decide +kernel
  have hup : S [46, 46] = Str.ofString ".." := by decide +kernel
  have hx : ∀ (st : TS) (k : Tok), npush st (S [120], k) = st ++ [(S [120], k)] := by
    intro st k
    exact npush_add (by decide +kernel) (by decide +kernel) (by decide +kernel)
  have hd : ∀ (st : TS) (k : Tok), npush st (S [46], k) = st := fun st k => npush_dot (by decide +kernel) (by decide +kernel)
  have hu : ∀ (st : TS) (k : Tok), npush st (S [46, 46], k) = st.dropLast := fun st k => by rw [hup]; exact npush_up
  have hnm : ∀ (st : TS) (k : Tok), npush st (S (nameOf j), k) = if j = 0 then st else st ++ [(S [96 + j], k)] := by
    intro st k
    unfold nameOf
    by_cases h0 : j = 0
    · rw [if_pos h0, if_pos h0]
      exact npush_nil (by decide +kernel)
    · rw [if_neg h0, if_neg h0]
      exact np1 st (96 + j) k (by omega)
  have hone : ∀ c ∈ (cs.map fun c => S [c]) ++ (if j = 0 then [] else [S [96 + j]]), c.length ≤ 1 := by
    intro c hc
    rcases List.mem_append.mp hc with hc | hc
    · obtain ⟨d, _, rfl⟩ := List.mem_map.mp hc
      rw [S_len]; simp
    · split at hc
      · simp at hc
      · rw [List.mem_singleton.mp hc, S_len]; simp
  have hlen : ((cs.map fun c => S [c]) ++ (if j = 0 then [] else [S [96 + j]])).length ≤ 11 := by
    rw [List.length_append, List.length_map]
    split
    · simp; omega
    · simp; omega
  have hc := c_normpath w (jn 47 ((cs.map fun c => [c]) ++ [[46], [120], [46, 46], nameOf j])) (S (laidOf rs j r)) tx (by rw [h4])
    (by cases cs with
      | nil => simp [jn]
      | cons c cs => cases cs <;> simp [jn])
    (by cases cs with
      | nil => simp [jn]
      | cons c cs =>
        have := h1 c (by simp)
        cases cs <;> simp [jn] <;> omega)
    (by rw [S_len]; exact Nat.le_trans (laid_len T) (by decide))
    (by rw [hsplit]; simp; omega)
    ((cs.map fun c => S [c]) ++ (if j = 0 then [] else [S [96 + j]]))
    (by
      intro l hl
      rw [hsplit] at hl
      obtain ⟨l1, k1, k2, k3, k4, rfl, e1⟩ := cut l hl
      rw [List.foldl_append, np_letters cs l1 [] h1 e1]
      simp only [List.foldl_cons, List.foldl_nil, hd, hx, hu, hnm]
      split <;> simp [e1])
    (join_few (a := 1) hone (by
      have : (Str.ofString "/").length = 1 := by decide +kernel
      rw [this]; omega))
    (Nat.le_trans (join_len hone) (by
      have : (Str.ofString "/").length = 1 := by decide +kernel
      rw [this]; omega))
    (by
      intro l hl i c hi hcc
      rw [hsplit] at hl
      obtain ⟨l1, k1, k2, k3, k4, rfl, e1⟩ := cut l hl
      have hcc' : c.1 = S [46, 46] := by rw [hup]; simpa using hcc
      by_cases hlt : i < l1.length
      · exfalso
        rw [List.getElem?_append_left hlt] at hi
        have hm : c.1 ∈ l1.map (·.1) := List.mem_map_of_mem (List.mem_of_getElem? hi)
        rw [e1] at hm
        obtain ⟨d, _, e⟩ := List.mem_map.mp hm
        rw [hcc', S_inj] at e
        simp at e
      · obtain ⟨k, rfl⟩ : ∃ k, i = l1.length + k := ⟨i - l1.length, by omega⟩
        rw [List.getElem?_append_right (by omega), Nat.add_sub_cancel_left] at hi
        match k, hi with
        | 0, hi =>
          cases hi
          rw [S_inj] at hcc'
          simp at hcc'
        | 1, hi =>
          cases hi
          rw [S_inj] at hcc'
          simp at hcc'
        | 2, hi =>
          refine ⟨l1, (S [120], k2), ?_, by show (S [120] == Str.ofString "..") = false; decide +kernel⟩
          rw [List.take_length_add_append]
          simp only [List.take_succ_cons, List.take_zero]
          rw [List.foldl_append, np_letters cs l1 [] h1 e1]
          simp only [List.foldl_cons, List.foldl_nil, hd, hx, List.nil_append]
        | 3, hi =>
          cases hi
          rw [S_inj] at hcc'
          unfold nameOf at hcc'
          split at hcc' <;> simp at hcc'
        | k + 4, hi => simp at hi)
  have hres : Str.ofString "/" ++ Txt.join (Str.ofString "/") ((cs.map fun c => S [c]) ++ (if j = 0 then [] else [S [96 + j]])) = S r.p := by
    rw [h5]
    by_cases h0 : j = 0
    · have := h3 h0
      subst this
      rw [if_pos h0, if_pos h0]
      decide +kernel
    · rw [if_neg h0, if_neg h0, pth_jn _ (by simp)]
      have e : (cs.map fun c => S [c]) ++ [S [96 + j]] = ((cs ++ [96 + j]).map fun c => [c]).map S := by simp
      rw [e, show Txt.join (Str.ofString "/") (((cs ++ [96 + j]).map fun c => [c]).map S) = Str.join (Str.ofString "/") _ from StrLaws.glued_eq_join .., slash_is, join_jn, S_append]
      rfl
  rw [hres] at hc
  exact hc
end
section
example : True := by
  w_top off
  trivial
open _root_.PySem _root_.PySem.W _root_.PyProof.Rows _root_.PySem.Calls
set_option maxRecDepth 100000
set_option maxHeartbeats 8000000
theorem last_split {prog : Program} {w : World} {A : Around} {E : Value → Shared → Prop} {s : Shared} {h₀ : Heap} {L D : Addr} {news : List (Addr × Obj)} {l : List (Str × Tok)} {z : List Str} {pre : List Str} {c : Str} {n : Nat} {k : Int} {u : Tok} {Q : Value → Shared → Prop} {value slice : PySem.Expr}
    (N : News h₀ L s.heap news) (hm : (D, W.listOf (strValues l).toArray n) ∈ news) (hl : l.map (·.1) = z) (hz : z = pre ++ [c]) (hk : k = -1) (h : ∀ t, Q (.str c t) s)
    (hs : subscripted slice false (.ref D) (.int k u) = operate [.ref D, .int k u] (getItem (.ref D) (.int k u)) := by with_unfolding_all rfl) : wpAny (model prog w) A (subscriptTail value slice (.ref D) (.int k u)) Q E s := by
  rw [hz] at hl
  obtain ⟨l1, l2, rfl, _, h2⟩ := List.map_eq_append_iff.mp hl
  match l2, h2 with
  | [(a, t)], h2 =>
    simp only [List.map_cons, List.map_nil, List.cons.injEq, and_true] at h2
    subst h2
    refine getLast_K N hm hk (by unfold strValues; simp) (v := .str a t) (by unfold strValues; simp) (h t) hs
theorem c_filemodeI (w : World) (k b : Int) (tx : Tok) (hk : k = 0 ∨ k = 1 ∨ k = 2) (hb : 0 ≤ b ∧ b < 512) : Con w 3 218 [.int ((if k = 0 then 16384 else if k = 1 then 32768 else 40960) + b) tx] (fun _ => True) (fun _ r _ => ∃ t, r = .str (S (letterI k :: (sgs b).map (·.toNat))) t) := by
  rcases hk with rfl | rfl | rfl
  · exact c_filemode0 w b tx hb
  · exact c_filemode1 w b tx hb
  · exact c_filemode2 w b tx hb
theorem put_row {rs : List Row} (T : TreeOk rs) {i : Nat} {r : Row} (hr : rs[i]? = some r) : PyProof.V.putD (PyData.str (S r.p)) (PyData.str (xtext r)) (tabD (rs.take i)) = tabD (rs.take (i + 1)) := by
  unfold PyProof.V.putD
  rw [if_neg]
  · rw [List.take_add_one, hr]
    unfold tabD
    rw [List.map_append]
    rfl
  · intro e
    obtain ⟨p, hp, hs⟩ := List.any_eq_true.mp e
    unfold tabD at hp
    obtain ⟨q, hq, rfl⟩ := List.mem_map.mp hp
    have hs' : S q.p = S r.p := by simpa [PySem.Spec.same] using hs
    obtain ⟨j, hj⟩ := List.mem_iff_getElem?.mp hq
    have hji : j < i := by
      have := (List.getElem?_eq_some_iff.mp hj).1
      rw [List.length_take] at this
      omega
    rw [List.getElem?_take_of_lt hji] at hj
    have := row_inj T hj hr (S_inj.mp hs')
    omega
theorem row_up {rs : List Row} (T : TreeOk rs) {i : Nat} {r : Row} (hr : rs[i]? = some r) : ∃ u, rs[r.a]? = some u := by
  by_cases h0 : 0 < i
  · obtain ⟨_, u, hu, _⟩ := T.up i r hr h0
    exact ⟨u, hu⟩
  · have : i = 0 := by omega
    subst this
    have hr' := hr
    rw [T.root] at hr'
    cases hr'
    exact ⟨_, T.root⟩
/-- the word between the turns: the texts of the rows so far -/
noncomputable def Kl (w : World) (rs : List Row) (D : Addr) (names : List Str) (m₀ : Str → Option Value) (i : Nat) (m : Str → Option Value) (news : List (Addr × Obj)) : Prop :=
  (∃ us, m = over names us m₀) ∧ ∃ (o : Obj) (kvs : List (Str × Value)), news = [(D, o)] ∧ o.IsDictOf (strKind PW w) kvs ∧ PyProof.V.FlatPairs PyData.str kvs (tabD (rs.take i))
noncomputable def TextsOut (w : World) (rs : List Row) (h : Heap) (r : Value) (h' : Heap) : Prop :=
  ∃ (D : Addr) (o : Obj) (kvs : List (Str × Value)), r = .ref D ∧ (D == sysModules) = false ∧ h.get? D = none ∧ h'.get? D = some o ∧ o.IsDictOf (strKind PW w) kvs ∧ PyProof.V.FlatPairs PyData.str kvs (tabD rs)
local macro_rules | `(tactic| walk_at "call ref") => `(tactic| (k_here; k_dflt (first
  | (refine' con_use ?C ?k1 ?k2 ?k3 ?k4 ?k5 ?kK ?kd ?ku ?kp ?_; (case C => first | exact c_joinrow _ _ (by assumption) (by assumption) (by assumption) _ _ _ _ _ | exact c_normrow _ _ (by assumption) (by assumption) _ | exact c_filemodeI _ _ _ _ (by assumption) (by assumption) | exact c_mode _ _ _ _ _ (by assumption) (by assumption)); w_left; intro r9 h9 tk9 K9 F9 N9 ho9; (obtain ⟨t9, ho9⟩ := ho9; subst ho9); (try dsimp only)))))
local macro_rules | `(tactic| walk_at "subscriptTail Call Attribute cons nil UnaryOp ref int") => `(tactic| (k_here; k_dflt (refine' last_split ?N ?hm ?hl ?hz ?hk ?_; (case N => k_asm); (case hm => k_mem); (case hl | hz => assumption); (case hk => rfl); k_whole; intro t8)))
local macro_rules | `(tactic| walk_at "assign Tuple") => `(tactic| (k_here; (with_reducible show wpAny _ _ (assign (Expr.Tuple _ _ _) _ (Value.ref _)) _ _ _); k_dflt (refine' kun_list ?k1 ?k2 ?k3 ?k4 ?k5 ?k6 ?_; (case k1 | k2 => k_asm); (case k3 => is_list); (case k4 | k5 | k6 => exact rfl); k_whole); intro h' F' N'; (try k_sweep)))
local macro_rules | `(tactic| walk_at "subscriptTail") => `(tactic| (k_here; (with_reducible show wpAny _ _ (subscriptTail _ _ (Value.ref _) (Value.int _ _)) _ _ _); k_dflt (first
  | (refine' item_at ?hl ?h0 ?hh ?hx ?_ ?hs; (case hl => is_list); (case h0 | hh => omega); (case hx => first | assumption | rfl); (case hs => with_unfolding_all rfl); k_whole)
  | (refine' last_split ?N ?hm ?hl ?hz ?hk ?_; (case N => k_asm); (case hm => k_mem); (case hl | hz => assumption); (case hk => rfl); k_whole; intro t8))))
local macro_rules | `(tactic| walk_at "setItem ref str") => `(tactic| (k_here; k_dflt (refine' setItem_K PyProof.V.same_str (strKind_is _ _ _ _) ?v ?F ?N ?U ?d ?f ?_ ?z; (case F | N => k_asm); (case U => k_updF); (case d | f => k_asm); (case z => assumption); (case v => exact PyProof.V.Flat.str _ _)); intro h' o' F' N' hd' hf'; (try dsimp only at N'); (try k_sweep)))
theorem c_laid (w : World) (rs : List Row) (T : TreeOk rs) (E : Addr) (as : List Addr) : ConG w 20 261 [.ref E] (fun h => RowsAt h E rs as) (TextsOut w rs) := by
  unfold ConG; intros; rename_i hret
  refine G_call ?_
  k_dflt (refine' enter_defG (binds := [(Str.ofString "entries", .ref E)]) ?k1 ?k2 ?k3 ?k5 ?kA ?kF ?kK ?k6 ?k7 ?k8 ?k9 ?kB ?_ ?c2 ?c3 ?c4 ?c5; (case kA => exact rfl); (case kF => exact rfl); (case kK => assumption); (case k1 => k_asm); (case k2 => k_asm); (case k3 => k_asm); (case k5 => k_asm); (case k6 => k_is); (case k7 => k_is); (case k8 => ktr_room); (case k9 => exact BindsTo.of_eq rfl); (case c5 => decide); (case kB => exact locs rfl); (case c2 => exact rfl); (case c3 => exact rfl); (case c4 => exact rfl); k_whole; intro L' h' F' N' B' X' T'; (try dsimp only); (try k_fold))
  rename RowsAt _ _ _ _ => hR
  have hl := hR.list
  refine G_step ?_
  k_steps
  rename Fr _ _ _ _ => hF
  rename News _ _ _ _ => hN
  refine G_execs_cons (G_For_base (Kl w rs _ [Str.ofString "path", Str.ofString "kind", Str.ofString "bits", Str.ofString "above", Str.ofString "laid"] _) rfl hl hF hN ⟨over_of fun _ _ => rfl, _, [], rfl, by assumption, by rw [List.take_zero]; assumption⟩ ?hi ?step ?done)
  case hi =>
    intro Q' hq
    k_steps
    exact hq
  case step =>
    rintro I i v m news h tk it hv ⟨⟨us, rfl⟩, o, kvs, rfl, hd1, hf1⟩ hoff F N2
    clear hF hN
    obtain ⟨a1, hra, hi2⟩ : ∃ a1, as[i]? = some a1 ∧ v = .ref a1 := by
      rw [List.getElem?_map] at hv
      cases e : as[i]? with
      | none => rw [e] at hv; cases hv
      | some a1 => rw [e] at hv; cases hv; exact ⟨a1, rfl, rfl⟩
    subst hi2
    have hil : i < rs.length := by
      rw [← hR.len]
      exact (List.getElem?_eq_some_iff.mp hra).1
    obtain ⟨r, hr⟩ : ∃ r, rs[i]? = some r := ⟨rs[i], by simp [hil]⟩
    obtain ⟨p1, p2, p3, p4, l1⟩ := hR.row i a1 r hra hr
    obtain ⟨u, hu⟩ := row_up T hr
    obtain ⟨a2, x2, q1, q2, q3, q4, l2⟩ := hR.at hu
    have y2 : (as.map Value.ref)[((r.a : Int)).toNat]? = some (.ref a2) := by simpa using x2
    have hal : r.a ≤ 10 := (row_lt T hu).2
    have hrk : r.k = 0 ∨ r.k = 1 ∨ r.k = 2 := by have := T.kind i r hr; omega
    have hrb := T.bits i r hr
    obtain ⟨pre, hpre, _⟩ := row_split T hr
    have hlp := (row_len T hr).1
    have hlu := (row_len T hu).1
    have hlj := laid_len T (j := i) (r := r)
    have hlj2 : (S (laidOf rs i r)).length ≤ 100 := by rw [S_len]; exact hlj
    have hlp2 : (S r.p).length ≤ 40 := by rw [S_len]; exact hlp
    have hlu2 : (S u.p).length ≤ 40 := by rw [S_len]; exact hlu
    have hst : (tabD (rs.take i)).length ≤ sizeLine := by rw [sizeLine_eq]; unfold tabD; rw [List.length_map, List.length_take]; have := T.few; omega
    have hpo : @Ne Nat _ I := hoff _ (List.mem_cons_self ..)
    refine G_of ?_
    k_steps
    refine G_step ?_
    k_steps
    refine G_execs_cons (G_Assign1 (G_Call ?_))
    k_steps
    k_dflt (refine' G_callWith_K ?k1 ?k2 ?_; (case k1 => k_asm); (case k2 => first | exact rfl | k_is); k_whole)
    k_steps
    k_dflt (refine' con_useG ?C ?k1 ?k2 ?k3 ?k4 ?k5 ?kK ?kd ?ku ?kp ?_; (case C => exact c_exS _ _ _ _ (by assumption)); (case k1 => k_asm); (case k2 => k_asm); (case k3 => k_asm); (case k4 => k_asm); (case k5 => k_asm); (case kK => first | exact rfl | assumption); (case kd => ktr_room); (case ku => ktr_units); (case kp => trivial); k_whole; intro r9 h9 tk9 K9 F9 N9 ho9; (obtain ⟨t9, ho9⟩ := ho9; subst ho9); (try dsimp only))
    k_steps
    rename News _ _ _ _ => N3
    rename Fr _ _ _ _ => F3
    have N4 := news_sub N3 (fun p hp => List.mem_cons_of_mem _ hp)
    k_dflt (refine setItem_K PyProof.V.same_str (strKind_is _ _ _ _) (PyProof.V.Flat.str _ _) F3 N4 (UpdF.tail (Ne.symm hpo) (UpdF.head (List.forall_mem_nil _))) hd1 hf1 ?_ hst)
    intro h5 o5 F5 N5 hd5 hf5
    (try dsimp only at N5)
    have hf6 : PyProof.V.FlatPairs PyData.str _ (tabD (rs.take (i + 1))) := put_row T hr ▸ hf5
    clear hf5 N3 N4
    refine G_of (wpAny_execs_nil ?_)
    exact ⟨rfl, h5, _, _, _, rfl, F5, N5, fun p hp => by rw [List.mem_singleton.mp hp]; exact hpo, over_of (nm_put (by decide +kernel) (nm_put (by decide +kernel) (nm_put (by decide +kernel) (nm_put (by decide +kernel) (nm_put (by decide +kernel) nm_base))))), o5, _, rfl, hd5, hf6⟩
  case done =>
    rintro m news h tk ⟨⟨us, rfl⟩, o, kvs, rfl, hd1, hf1⟩ F N2
    clear hF hN
    rw [List.length_map, hR.len, List.take_length] at hf1
    dsimp only
    refine G_rest ?_
    k_steps
    rename News _ _ _ _ => N3
    exact hret _ _ _ (Fr.keep (by k_asm)) ⟨_, o, kvs, rfl, by assumption, (N3 _ (List.mem_cons_self ..)).2.2, (N3 _ (List.mem_cons_self ..)).1, hd1, hf1⟩
end
section
example : True := by
  w_top off
  trivial
open _root_.PySem _root_.PySem.W _root_.PyProof.Rows _root_.PySem.Calls
set_option maxRecDepth 100000
set_option maxHeartbeats 8000000
local macro_rules | `(tactic| walk_at "exec While Compare cons nil") => `(tactic| (k_here; refine halt_in ?_))
local macro_rules | `(tactic| walk_at "exec While Compare") => `(tactic| (k_here; refine halt_in ?_))
local macro_rules | `(tactic| walk_at "exec While BoolOp") => `(tactic| (k_here; refine halt_in ?_))
local macro_rules | `(tactic| walk_at "subscriptTail") => `(tactic| (k_here; (with_reducible show wpAny _ _ (subscriptTail _ _ (Value.ref _) (Value.int _ _)) _ _ _); k_dflt (refine' item_at ?hl ?h0 ?hh ?hx ?_ ?hs; (case hl => is_list); (case h0 | hh => omega); (case hx => first | assumption | rfl); (case hs => with_unfolding_all rfl); k_whole)))
theorem openUp_up {rs : List Row} (T : TreeOk rs) {j : Nat} {r : Row} (hr : rs[j]? = some r) (h0 : 0 < j) : openUp rs j = (opn rs r.a && openUp rs r.a) := by
  unfold openUp; rw [chain_up T hr h0]; rfl
theorem c_open (w : World) (rs : List Row) (T : TreeOk rs) (E : Addr) (as : List Addr) (j : Nat) (tj : Tok) (hj : j < rs.length) : Con w 1 268 [.ref E, .int (j : Int) tj] (fun h => RowsAt h E rs as) (fun _ r _ => r = .bool (openUp rs j)) := by
  unfold Con; intros; rename_i hret
  refine wpAny_call ?_
  k_dflt (refine' enter_def (binds := [(Str.ofString "entries", .ref E), (Str.ofString "k", .int (j : Int) tj)]) ?k1 ?k2 ?k3 ?k5 ?kA ?kF ?kK ?k6 ?k7 ?k8 ?k9 ?kB ?_ ?c2 ?c3 ?c4 ?c5; (case kA => exact rfl); (case kF => exact rfl); (case kK => assumption); (case k1 => k_asm); (case k2 => k_asm); (case k3 => k_asm); (case k5 => k_asm); (case k6 => k_is); (case k7 => k_is); (case k8 => ktr_room); (case k9 => exact BindsTo.of_eq rfl); (case c5 => decide); (case kB => exact locs rfl); (case c2 => exact rfl); (case c3 => exact rfl); (case c4 => exact rfl); k_whole; intro L' h' F' N' B' X' T'; (try dsimp only); (try k_fold))
  k_steps
  rename Fr _ _ _ _ => hF
  rename News _ _ _ _ => hN
  rename RowsAt _ _ _ _ => hR
  have hl := hR.list
  refine While_two (x := Str.ofString "opened") (y := Str.ofString "k") (n₀ := j) (fun n vx vy nx => nx = [] ∧ n < rs.length ∧ ∃ b t, vx = .bool b ∧ vy = .int (n : Int) t ∧ (b && openUp rs n) = openUp rs j) hF hN (by simp) (by simp; decide +kernel) ⟨rfl, hj, true, tj, rfl, rfl, by simp⟩ ?_
  rintro n vx vy nx h tk F1 N1 ⟨rfl, hn, b, t, rfl, rfl, hb⟩
  have hn' := T.few
  obtain ⟨r, hr⟩ : ∃ r, rs[n]? = some r := ⟨rs[n], by simp [hn]⟩
  obtain ⟨u, hu, hup⟩ : ∃ u, rs[r.a]? = some u ∧ (0 < n → r.a < n) := by
    by_cases h0 : 0 < n
    · obtain ⟨h1, u, h2, _⟩ := T.up n r hr h0
      exact ⟨u, h2, fun _ => h1⟩
    · have : n = 0 := by omega
      subst this
      rw [T.root] at hr
      cases hr
      exact ⟨_, T.root, fun h => absurd h (by omega)⟩
  have hua : r.a < rs.length := (row_lt T hu).1
  obtain ⟨a1, x1, p1, p2, p3, p4, l1⟩ := hR.at hr
  obtain ⟨a2, x2, q1, q2, q3, q4, l2⟩ := hR.at hu
  have y1 : (as.map Value.ref)[((n : Int)).toNat]? = some (.ref a1) := by simpa using x1
  have y2 : (as.map Value.ref)[((r.a : Int)).toNat]? = some (.ref a2) := by simpa using x2
  clear hR hF hN x1 x2
  k_steps
  · rename b = true => hbt
    rename 0 < (n : Int) => h0
    refine' WTurn.intro (n' := r.a) ?wF1 ?wN1 (hup (by omega)) ?wx1 ?wy1 ?wm1 ?wv1; (case wF1 => k_asm); (case wN1 => k_asm); (case wx1 => exact if_pos rfl); (case wy1 => exact (if_neg (by decide +kernel)).trans (if_pos rfl)); (case wm1 => exact fun z h1 h2 => by simp [h1, h2])
    refine ⟨rfl, hua, _, _, rfl, rfl, ?_⟩
    rw [← hb, hbt, openUp_up T hr (by omega)]
    simp [opn, hu]
  · rename b = false => hbt
    rename 0 < (n : Int) => h0
    refine' WTurn.intro (n' := r.a) ?wF2 ?wN2 (hup (by omega)) ?wx2 ?wy2 ?wm2 ?wv2; (case wF2 => k_asm); (case wN2 => k_asm); (case wx2 => exact if_pos rfl); (case wy2 => exact (if_neg (by decide +kernel)).trans (if_pos rfl)); (case wm2 => exact fun z h1 h2 => by simp [h1, h2])
    refine ⟨rfl, hua, _, _, rfl, rfl, ?_⟩
    rw [← hb, hbt]
    simp
  · dsimp only
    have : n = 0 := by omega
    subst this
    refine hret _ _ _ (Fr.keep (by k_asm)) (congrArg Value.bool ?_)
    rw [← hb]
    simp [openUp, chain_zero]
end
section
example : True := by
  w_top off
  trivial
open _root_.PySem _root_.PySem.W _root_.PyProof.Rows _root_.PySem.Calls
set_option maxRecDepth 100000
set_option maxHeartbeats 8000000
local macro_rules | `(tactic| walk_at "exec While Compare cons nil") => `(tactic| (k_here; refine halt_in ?_))
local macro_rules | `(tactic| walk_at "exec While Compare") => `(tactic| (k_here; refine halt_in ?_))
local macro_rules | `(tactic| walk_at "exec While BoolOp") => `(tactic| (k_here; refine halt_in ?_))
theorem in_row {prog : Program} {w : World} {A : Around} {E : Value → Shared → Prop} {s : Shared} {d : Addr} {D : List (PyData × PyData)} {x : Str} {t : Tok} {dv : PyData} {Q : Value → Shared → Prop} (T : StrTab prog w s.heap d D) (hl : PySem.Spec.lookup (.str x) D = some dv) (h : Q (.bool true) { s with toks := s.toks + 1 }) :
    wpAny (model prog w) A (compareOp .In (.str x t) (.ref d)) Q E s := in_strTab T (by rw [hl]; exact h)
theorem push_strs (l : List (Str × Tok)) (c : Str) (t : Tok) : (strValues (l ++ [(c, t)])).toArray = (strValues l).toArray.push (.str c t) := by unfold strValues; simp
theorem strs_at {l : List (Str × Tok)} {i : Nat} {v : Value} (h : (strValues l)[i]? = some v) : ∃ c : Str × Tok, l[i]? = some c ∧ v = .str c.1 c.2 := by
  unfold strValues at h
  rw [List.getElem?_map] at h
  cases q : l[i]? with
  | none => rw [q] at h; cases h
  | some c => rw [q] at h; cases h; exact ⟨c, rfl, rfl⟩
theorem thr_sign {rs : List Row} {l : List (Str × Tok)} {n j : Nat} (hb : l.map (·.1) ++ askd rs n = askd rs j) {c : Str} (hc : c ∈ l.map (·.1)) : c = S [120] ∨ c = S [45] := by
  have : c ∈ askd rs j := by rw [← hb]; exact List.mem_append_left _ hc
  unfold askd at this
  obtain ⟨i, _, rfl⟩ := List.mem_map.mp this
  cases rs[i]? with
  | none => exact .inr rfl
  | some r =>
    show c3 r = _ ∨ c3 r = _
    unfold c3
    split
    · exact .inl rfl
    · exact .inr rfl
noncomputable def Vthr (rs : List Row) (j : Nat) (A : Addr) (n : Nat) (vx vy : Value) (nx : List (Addr × Obj)) : Prop :=
  ∃ r t l e, n < rs.length ∧ rs[n]? = some r ∧ vx = .str (S r.p) t ∧ vy = .ref A ∧ nx = [(A, W.listOf (strValues l).toArray e)] ∧ l.map (·.1) ++ askd rs n = askd rs j
theorem c_dirrow (w : World) (rs : List Row) {j : Nat} {r u : Row} (T : TreeOk rs) (hr : rs[j]? = some r) (h0 : 0 < j) (hu : rs[r.a]? = some u) (tx : Tok) : Con w 2 136 [.str (S r.p) tx] (fun _ => True) (fun _ r' _ => ∃ t, r' = .str (S u.p) t) := by
  obtain ⟨a, h1, h2, h3, h4⟩ := row_above T hr h0 hu
  rw [h3]
  refine c_dirname w a [96 + j] _ tx (by rw [h1]) (by simp; have := row_lt T hr; omega) h2 ?_
  rw [S_len]; exact Nat.le_trans (row_len T hr).1 (by decide)
local macro_rules | `(tactic| walk_at "call ref") => `(tactic| (k_here; k_dflt (first
  | (refine' con_use ?C ?k1 ?k2 ?k3 ?k4 ?k5 ?kK ?kd ?ku ?kp ?_; (case C => exact c_dirrow _ _ (by assumption) (by assumption) (by assumption) (by assumption) _); w_left; intro r9 h9 tk9 K9 F9 N9 ho9; (obtain ⟨t9, ho9⟩ := ho9; subst ho9); (try dsimp only)))))
local macro_rules | `(tactic| walk_at "subscriptTail") => `(tactic| (k_here; (with_reducible show wpAny _ _ (subscriptTail _ _ (Value.ref _) (Value.str _ _)) _ _ _); k_dflt (refine' item_strTab (dv := PyData.str _) ?hT ?hl ?_ ?hs ?hg; (case hT => exact TabAt.ofFr (by assumption) (by k_asm)); (case hl => assumption); (case hs => with_unfolding_all rfl); (case hg => (intro _; with_unfolding_all rfl)); k_whole); intro v8 hv8; obtain ⟨t8, hv8'⟩ := PyProof.V.Flat.str_inv hv8; subst hv8'; clear hv8))
local macro_rules | `(tactic| walk_at "compareOp In str ref") => `(tactic| (k_here; k_dflt (refine' in_row ?hT ?hl ?_; (case hT => exact TabAt.ofFr (by assumption) (by k_asm)); (case hl => assumption); k_whole)))
local macro_rules | `(tactic| walk_at "CompSrcT") => `(tactic| (k_here; refine halt_in ?_))
theorem c_through (w : World) (rs : List Row) (T : TreeOk rs) (D : Addr) (j : Nat) (r0 : Row) (tj : Tok) (hj : rs[j]? = some r0) : Con w 20 254 [.str (S r0.p) tj, .ref D] (fun h => StrTab PW w h D (tabD rs)) (fun _ r _ => r = .bool (openUp rs j)) := by
  unfold Con; intros; rename_i hret
  refine wpAny_call ?_
  k_dflt (refine' enter_def (binds := [(Str.ofString "path", .str (S r0.p) tj), (Str.ofString "texts", .ref D)]) ?k1 ?k2 ?k3 ?k5 ?kA ?kF ?kK ?k6 ?k7 ?k8 ?k9 ?kB ?_ ?c2 ?c3 ?c4 ?c5; (case kA => exact rfl); (case kF => exact rfl); (case kK => assumption); (case k1 => k_asm); (case k2 => k_asm); (case k3 => k_asm); (case k5 => k_asm); (case k6 => k_is); (case k7 => k_is); (case k8 => ktr_room); (case k9 => exact BindsTo.of_eq rfl); (case c5 => decide); (case kB => exact locs rfl); (case c2 => exact rfl); (case c3 => exact rfl); (case c4 => exact rfl); k_whole; intro L' h' F' N' B' X' T'; (try dsimp only); (try k_fold))
  k_steps
  rename Fr _ _ _ _ => hF
  rename News _ _ _ _ => hN
  rename TabAt _ _ _ _ _ => hT
  refine While_two (x := Str.ofString "path") (y := Str.ofString "asked") (n₀ := j) (Vthr rs j _) hF hN ((if_neg (by decide +kernel)).trans (by first | rfl | kernel_rfl)) (by simp) ⟨r0, tj, [], _, (row_lt T hj).1, hj, rfl, rfl, rfl, rfl⟩ ?_
  rintro n vx vy nx h tk F1 N1 ⟨r, t, l, e, hn, hr, rfl, rfl, rfl, hb⟩
  by_cases h0 : 0 < n
  · obtain ⟨ha, u, hu, _⟩ := T.up n r hr h0
    have hlu := tab_at T hu
    have hxl := xtext_len u
    have hx3 := xtext_at (T.bits _ _ hu)
    have hne := row_ne T hr h0
    generalize xtext u = z at hlu hxl hx3
    obtain ⟨hll, hll2⟩ := thr_len T hb (row_lt T hj).1
    clear hF hN
    k_steps
    refine' WTurn.intro (n' := r.a) ?wF ?wN ha ?wx ?wy ?wm ?wv; (case wF => k_asm); (case wN => k_asm); (case wx => exact if_pos rfl); (case wy => exact (if_neg (by decide +kernel)).trans ((if_neg (by decide +kernel)).trans (if_pos rfl))); (case wm => exact fun z h1 h2 => by simp [h1, h2])
    exact ⟨u, _, l ++ [(Txt.item z 3, _)], _, (row_lt T hu).1, hu, rfl, rfl, by rw [push_strs], by rw [hx3, List.map_append, List.append_assoc, ← hb, askd_up T hr h0 hu]; rfl⟩
  · have h0 : n = 0 := by omega
    subst h0
    have hne : (S r.p != Str.ofString "/") = false := by rw [(row_root T hr).mpr rfl]; decide +kernel
    obtain ⟨hll, hll2⟩ := thr_len T hb (row_lt T hj).1
    clear hF hN
    k_steps
    rename Fr _ _ _ _ => hF
    rename News _ _ _ _ => hN
    refine LCt.CompSrcT.ledger (by rfl) hF hN (by k_mem) (by rw [sizeLine_eq]; omega) ?_
    intro g
    refine restT_ind (fun i ys => ∃ q, ys = strValues q ∧ (∀ c ∈ q.map (·.1), PyData.strOk c = true) ∧ (q = [] ↔ ∀ c ∈ (l.take i).map (·.1), c = Str.ofString "x")) ?stepT ?doneT _ 0 [] rfl (Nat.zero_le _) ⟨[], rfl, by simp, by simp⟩
    case stepT =>
      rintro i ys hi ⟨q, rfl, hq1, hq2⟩ v I oI C oC D' m₂ h' tk' E' hv hC hx F2 N2 off2 ne2
      have hv' : (strValues l)[i]? = some v := by simpa using hv
      obtain ⟨c, hc, rfl⟩ := strs_at hv'
      obtain ⟨ct, ck⟩ := c
      dsimp only at hx
      have ht : (l.take (i + 1)).map (·.1) = (l.take i).map (·.1) ++ [ct] := by rw [List.take_add_one, hc]; simp
      have hcx : ct = S [120] ∨ ct = S [45] := thr_sign hb (List.mem_map_of_mem (List.mem_of_getElem? hc))
      simp only [LCg.Off3, and_true] at off2
      cases hq : (ct != Str.ofString "x") with
      | true =>
        k_steps
        refine ⟨rfl, q ++ [(ct, ck)], by unfold strValues; simp, ?_, ?_⟩
        · intro c hc
          rw [List.map_append] at hc
          rcases List.mem_append.mp hc with hc | hc
          · exact hq1 c hc
          · obtain rfl : c = ct := by simpa using hc
            rcases hcx with rfl | rfl <;> decide +kernel
        · rw [ht]
          constructor
          · intro e; simp at e
          · intro e
            have := e ct (by simp)
            rw [this] at hq
            simp at hq
      | false =>
        k_steps
        refine ⟨rfl, q, rfl, hq1, ?_⟩
        rw [ht, hq2]
        have : ct = Str.ofString "x" := by simpa using hq
        constructor
        · intro e c hc
          rcases List.mem_append.mp hc with hc | hc
          · exact e c hc
          · obtain rfl : c = ct := by simpa using hc
            exact this
        · intro e c hc
          exact e c (List.mem_append_left _ hc)
    case doneT =>
      rintro ys ⟨q, rfl, hq1, hq2⟩
      k_steps
      refine eq_strs (p := q) (q := []) (by is_list) (by is_list) hq1 (by simp) (by ktr_units) ?_
      k_steps
      refine hret _ _ _ (Fr.keep (by k_asm)) (congrArg Value.bool ?_)
      rw [← askd_open rs j, ← hb]
      have h1 : (strValues l).toArray.toList.length = l.length := by unfold strValues; simp
      rw [h1, List.take_length] at hq2
      have h2 : askd rs 0 = [] := rfl
      rw [h2, List.append_nil, Bool.eq_iff_iff]
      simp only [decide_eq_true_eq, List.map_nil, List.map_eq_nil_iff, hq2, List.all_eq_true, beq_iff_eq]
end
section
open _root_.PySem _root_.PySem.W _root_.PyProof.Rows _root_.PySem.Calls
set_option maxRecDepth 100000
set_option maxHeartbeats 1000000
theorem rising_pair : ∀ (p : Str) (l : List Str), risingS p l = true → (p :: l).Pairwise fun a b => ¬ b.cps.toList < a.cps.toList
  | p, [], _ => by simp
  | p, x :: r, h => by
    have h' := h
    unfold risingS at h'
    rw [Bool.and_eq_true, ltCps_eq] at h'
    have h1 : ¬ x.cps.toList < p.cps.toList := by simpa using h'.1
    have ih := rising_pair x r h'.2
    refine List.pairwise_cons.mpr ⟨?_, ih⟩
    intro y hy
    rcases List.mem_cons.mp hy with rfl | hy
    · exact h1
    · have h2 := (List.pairwise_cons.mp ih).1 y hy
      have h1' : p.cps.toList ≤ x.cps.toList := List.not_lt.mp h1
      have h2' : x.cps.toList ≤ y.cps.toList := List.not_lt.mp h2
      exact List.not_lt.mpr (List.le_trans h1' h2')
theorem sorted_pair : ∀ l : List Str, sortedS l = true → l.Pairwise fun a b => ¬ b.cps.toList < a.cps.toList
  | [], _ => by simp
  | x :: r, h => rising_pair x r h
theorem sorted_same {a b : List Str} (p : a.Perm b) (ha : sortedS a = true) (hb : sortedS b = true) : a = b := by
  refine List.Perm.eq_of_pairwise (fun x y _ _ h1 h2 => ?_) (sorted_pair a ha) (sorted_pair b hb) p
  have h1' : x.cps.toList ≤ y.cps.toList := List.not_lt.mp h1
  have h2' : y.cps.toList ≤ x.cps.toList := List.not_lt.mp h2
  have := List.le_antisymm h1' h2'
  exact Str.ext' (Array.toList_inj.mp this)
theorem strs_are : ∀ {vs : List Value} {ss : List Str}, StrsAre vs ss → ∃ l : List (Str × Tok), vs = strValues l ∧ l.map (·.1) = ss
  | _, _, .nil => ⟨[], rfl, rfl⟩
  | _, _, .cons c t r => by
    obtain ⟨l, rfl, rfl⟩ := strs_are r
    exact ⟨(c, t) :: l, rfl, rfl⟩
theorem are_strs : ∀ l : List (Str × Tok), StrsAre (strValues l) (l.map (·.1))
  | [] => .nil
  | (c, t) :: r => .cons c t (are_strs r)
theorem are_of : ∀ {vs : List Value} {ss : List Str}, vs.length = ss.length → (∀ (j : Nat) (v : Value), vs[j]? = some v → ∃ c t, ss[j]? = some c ∧ v = .str c t) → StrsAre vs ss
  | [], [], _, _ => .nil
  | [], _ :: _, h, _ => by simp at h
  | _ :: _, [], h, _ => by simp at h
  | v :: vs, c :: ss, h, hj => by
    obtain ⟨d, t, e1, e2⟩ := hj 0 v rfl
    cases e1
    subst e2
    exact .cons c t (are_of (by simpa using h) fun j v hv => hj (j + 1) v hv)
section
variable {prog : Program} {w : World} {A : Around} {E : Value → Shared → Prop} {s : Shared} {h₀ : Heap} {L B : Addr} {m : Str → Option Value} {news : List (Addr × Obj)}
theorem lsort_strs {vs : List Value} {ss : List Str} {n : Nat} {Q : Value → Shared → Prop} (F : Fr h₀ L s.heap m) (N : News h₀ L s.heap ((B, W.listOf vs.toArray n) :: news)) (hoff : ∀ q ∈ news, q.1 < B) (hS : StrsAre vs ss) (h64 : vs.length < 64)
    (h : ∀ (h' : Heap) (vs' : List Value) (ss' : List Str) (e : Nat), Fr h₀ L h' m → News h₀ L h' ((B, W.listOf vs'.toArray e) :: news) → StrsAre vs' ss' → ss'.Perm ss → sortedS ss' = true → Q .none { s with heap := h' }) :
    wpAny (model prog w) A (call (.builtin "list.sort") [.ref B]) Q E s := by
  have ho : s.heap.get? B = some (seqObj "list" vs.toArray n) := (N _ (List.mem_cons_self ..)).1
  have hBL : B ≠ L := (N _ (List.mem_cons_self ..)).2.1
  have hB0 : h₀.get? B = none := (N _ (List.mem_cons_self ..)).2.2
  refine wpAny_call_entry slot_list_sort ⟨_, ho, rfl⟩ entry_list_sort (list_sort_treeK strKind_oneLt ho hS.keysOf (fun v₁ v₂ rest e => keyKind_strs (by rw [← e]; exact hS)) h64 fun st' a1 a2 => ⟨_, rfl, ?_⟩) (args_list_sort _)
  obtain ⟨ss', h1, h2, h3⟩ := sorted_out_str hS a1 a2
  obtain ⟨e, he⟩ := sortedHeap_at (out := (arrOf st').map (·.2)) ho
  have old : ∀ b o, b ≠ B → s.heap.get? b = some o → (sortedHeap s.heap B vs ((arrOf st').map (·.2))).get? b = some o := fun b o hb q => (sortedHeap_old hb (Heap.lt_size q)).trans q
  refine h _ ((arrOf st').map (·.2)).toList ss' e ⟨F.ns.at' fun o q => old _ o (Ne.symm hBL) q, fun b o q => old b o (fun z => by rw [z, hB0] at q; cases q) (F.keep b o q), F.above⟩ (fun p hp => ?_) h1 h2 h3
  rcases List.mem_cons.mp hp with rfl | hp
  · exact ⟨he, hBL, hB0⟩
  · exact ⟨old _ _ (Nat.ne_of_lt (hoff p hp)) (N p (List.mem_cons_of_mem _ hp)).1, (N p (List.mem_cons_of_mem _ hp)).2⟩
theorem sorted_texts {l : Addr} {q : List (Str × Tok)} {n : Nat} {Q : Value → Shared → Prop} (F : Fr h₀ L s.heap m) (N : News h₀ L s.heap news) (hm : (l, W.listOf (strValues q).toArray n) ∈ news) (h64 : q.length < 64)
    (h : ∀ (B : Addr) (h' : Heap) (q' : List (Str × Tok)) (e : Nat), Fr h₀ L h' m → News h₀ L h' ((B, W.listOf (strValues q').toArray e) :: news) → (∀ p ∈ news, p.1 < B) → (q'.map (·.1)).Perm (q.map (·.1)) → sortedS (q'.map (·.1)) = true → Q (.ref B) { s with heap := h' }) :
    wpAny (model prog w) A (call (.builtin "sorted") [.ref l]) Q E s := by
  refine sorted_N_str F N (led_list N hm) (are_strs q) (by unfold strValues; rw [List.length_map]; exact h64) fun h' vs' ss' e F' N' hS hP hs => ?_
  obtain ⟨q', rfl, rfl⟩ := strs_are hS
  exact h _ h' q' e F' N' (fun p hp => Nat.lt_succ_of_lt (Heap.lt_size (N p hp).1)) hP hs
/-- the keys of a dict of texts, in order -/
theorem sorted_keys {d : Addr} {o : Obj} {kvs : List (Str × Value)} {Q : Value → Shared → Prop} (hh : A.handled = none) (F : Fr h₀ L s.heap m) (N : News h₀ L s.heap news) (hm : (d, o) ∈ news) (hd : o.IsDictOf (PySem.strKind prog w) kvs) (hlo : (d == sysModules) = false) (h64 : kvs.length < 64)
    (h : ∀ (B : Addr) (h' : Heap) (tk : Nat) (q' : List (Str × Tok)) (e : Nat), Fr h₀ L h' m → News h₀ L h' ((B, W.listOf (strValues q').toArray e) :: news) → (∀ q ∈ news, q.1 < B) → (q'.map (·.1)).Perm (kvs.map (·.1)) → sortedS (q'.map (·.1)) = true → Q (.ref B) { s with heap := h', toks := tk }) :
    wpAny (model prog w) A (call (.builtin "sorted") [.ref d]) Q E s := by
  have hD : s.heap.DictOf (PySem.strKind prog w) d kvs := Heap.dictOf_iff.mpr ⟨o, (N _ hm).1, hd⟩
  obtain ⟨ep, hat⟩ := hD.dictAt
  refine kdu_sorted (kdl_dict (knd := PySem.strKind prog w) (kvs := kvs) (ep := ep) hlo) hh F N hat (by rw [sizeLine_eq]; omega) fun B h' tk vs F' N' l1 hl hv => ?_
  have hS : StrsAre vs (kvs.map (·.1)) := are_of (by rw [hl, List.length_map]) fun j v hj => by
    obtain ⟨k, x, hx, hk⟩ := hv j v hj
    obtain ⟨t, rfl⟩ := PyProof.V.Flat.str_inv (kdl_flat_str hk)
    exact ⟨k, t, by rw [List.getElem?_map, hx]; rfl, rfl⟩
  exact lsort_strs F' N' l1 hS (by omega) fun h2 vs' ss' e F2 N2 a b c => by
    obtain ⟨q', rfl, rfl⟩ := strs_are a
    exact h B h2 tk q' e F2 N2 l1 b c
end
theorem flat_keys : ∀ {l : List Row} {kvs : List (Str × Value)}, PyProof.V.FlatPairs PyData.str kvs (tabD l) → kvs.map (·.1) = l.map fun r => S r.p
  | [], _, h => by
    have := h.length
    cases h
    rfl
  | r :: l, kvs, h => by
    unfold tabD at h
    rw [List.map_cons] at h
    generalize hd : (PyData.str (S r.p), PyData.str (xtext r)) = d at h
    cases h with
    | cons hf ht =>
      injection hd with h1 h2
      injection h1 with h1
      subst h1
      rw [List.map_cons, List.map_cons, flat_keys (l := l) ht]
end
section
example : True := by
  w_top off
  trivial
open _root_.PySem _root_.PySem.W _root_.PyProof.Rows _root_.PySem.Calls
set_option maxRecDepth 100000
set_option maxHeartbeats 8000000
local macro_rules | `(tactic| walk_at "compareOp NotEq ref ref") => `(tactic| (k_here; refine halt_in ?_))
local macro_rules | `(tactic| walk_at "compareOp Eq ref ref") => `(tactic| (k_here; refine halt_in ?_))
local macro_rules | `(tactic| walk_at "call builtin:sorted") => `(tactic| (k_here; refine halt_in ?_))
local macro_rules | `(tactic| walk_at "CompSrc") => `(tactic| (k_here; refine halt_in ?_))
local macro_rules | `(tactic| is_list) => `(tactic| exact led_list (by k_asm) (by k_mem))
local macro_rules | `(tactic| k_mem) => `(tactic| assumption)
local macro_rules | `(tactic| k_all) => `(tactic| assumption)
local macro_rules | `(tactic| walk_at "subscriptTail") => `(tactic| (k_here; (with_reducible show wpAny _ _ (subscriptTail _ _ (Value.ref _) (Value.int _ _)) _ _ _); k_dflt (refine' item_at ?hl ?h0 ?hh ?hx ?_ ?hs; (case hl => is_list); (case h0 | hh => omega); (case hx => first | assumption | rfl); (case hs => with_unfolding_all rfl); k_whole)))
theorem c_rightI (w : World) (k b : Int) (tk tb : Tok) (hk : k = 0 ∨ k = 1 ∨ k = 2) (hb : 0 ≤ b ∧ b < 512) : ConG w 20 249 [.int k tk, .int b tb] (fun _ => True) (fun _ r _ => r = .bool true) := by
  rcases hk with rfl | rfl | rfl
  · exact c_right0 w b tk tb hb
  · exact c_right1 w b tk tb hb
  · exact c_right2 w b tk tb hb
theorem rows_at {h₀ h : Heap} {L E : Addr} {news rows : List (Addr × Obj)} {rs : List Row} {as : List Addr} {e : Nat} (N : News h₀ L h news) (hE : (E, W.listOf (as.map Value.ref).toArray e) ∈ news) (hs : ∀ p ∈ rows, p ∈ news) (hRo : RowObjs rows as rs) : RowsAt h E rs as where
  len := hRo.1
  list := ⟨_, (N _ hE).1, rfl, _, rfl⟩
  row := fun j a r ha hr => by
    obtain ⟨t1, t2, t3, t4, e, hm⟩ := hRo.2 j a r ha hr
    exact ⟨t1, t2, t3, t4, _, (N _ (hs _ hm)).1, rfl, _, rfl⟩
theorem refs_at {as : List Addr} {i : Nat} {v : Value} (h : (as.map Value.ref).toArray[i]? = some v) : ∃ a, as[i]? = some a ∧ v = .ref a := by
  have h' : (as.map Value.ref)[i]? = some v := by simpa using h
  rw [List.getElem?_map] at h'
  cases e : as[i]? with
  | none => rw [e] at h'; cases h'
  | some a => rw [e] at h'; cases h'; exact ⟨a, rfl, rfl⟩
theorem row_of {as : List Addr} {rs : List Row} (hl : as.length = rs.length) {i : Nat} {a : Addr} (h : as[i]? = some a) : ∃ r, rs[i]? = some r := by
  have := (List.getElem?_eq_some_iff.mp h).1
  exact ⟨rs[i]'(by omega), by simp⟩
theorem path_ok {rs : List Row} (T : TreeOk rs) {c : Str} (hc : c ∈ rs.map fun r => S r.p) : PyData.strOk c = true := by
  obtain ⟨r, hr, rfl⟩ := List.mem_map.mp hc
  obtain ⟨j, hj⟩ := List.mem_iff_getElem?.mp hr
  refine strOk_S fun x hx => ?_
  by_cases h0 : 0 < j
  · obtain ⟨cs, h1, h2, h3, _⟩ := row_letters T hj h0
    have := row_lt T hj
    rw [h3] at hx
    unfold pth at hx
    obtain ⟨d, hd, hx⟩ := List.mem_flatMap.mp hx
    simp only [List.mem_cons, List.not_mem_nil, or_false] at hx
    rcases hx with rfl | rfl
    · omega
    · rcases List.mem_append.mp hd with hd | hd
      · have := h1 _ hd; omega
      · have := List.mem_singleton.mp hd; omega
  · have : j = 0 := by omega
    subst this
    rw [T.root] at hj
    cases hj
    simp at hx
    omega
theorem g_law (w : World) (mean : ExcName → Option Value) (mg mb : Str → Option Value) (dp un : Nat) (gd : Option (List Code)) (outer : List Env) (base : Heap) (s : Shared) (N : Addr) (vs : List Value) (ns : List Int) (Q : Value → Shared → Prop)
    (B : Below (ktrBot dp un gd outer) base outer s.heap) (X : (hd.heap_1 w.params).In s.heap) (T : Top vw LS mean mg mb s.heap) (hdp : dp + 40 < recursionLimit) (hun : un + 8 * 60 < cLine) (hL : s.heap.IsList N vs.toArray) (hi : IntsAre vs ns) (hlen : ns.length ≤ 63)
    (hret : ∀ h' tk', Ext s.heap h' → Q (.bool true) { s with heap := h', toks := tk' }) :
    codeG (model PW w) (ktrBot dp un gd outer) (.call (.ref 273) ⟨[.ref N], []⟩) (fun f s' => ∃ v, f = .ret v ∧ Q v s') s := by
  have hvl : vs.length = ns.length := hi.length
  have hvz : vs.toArray.size ≤ 63 := by rw [List.size_toArray]; omega
  k_dflt (refine' enter_topCG (binds := [(Str.ofString "script", .ref N)]) ?k1 ?k3 ?k5 ?k6 ?k7 ?k8 ?k9 ?kB ?kD ?_ ?c2 ?c3 ?c4; (case k1 => k_asm); (case k3 => k_asm); (case k5 => k_asm); (case k6 => k_is); (case k7 => k_is); (case k8 => ktr_room); (case k9 => exact BindsTo.of_eq rfl); (case kB => exact rfl); (case kD => decide +kernel); (case c2 => exact rfl); (case c3 => exact rfl); (case c4 => exact rfl); k_whole; intro L' h' tk' cells' F' N' Y'; k_cells Y'; (try simp only [List.cons_append, List.nil_append] at N'); (try dsimp only); (try k_fold))
  refine G_step ?_
  k_steps
  rename IntsAre _ (List.take 4 ns ++ _) => hI4
  rename News _ _ _ _ => N1
  rename Fr _ _ _ _ => F1
  k_dflt (refine' con_use ?C ?k1 ?k2 ?k3 ?k4 ?k5 ?kK ?kd ?ku ?kp ?_; (case C => exact c_tree _ _ _ _ hI4 (by simp; omega)); (case k1 => k_asm); (case k2 => k_asm); (case k3 => k_asm); (case k4 => k_asm); (case k5 => k_asm); (case kK => first | exact rfl | assumption); (case kd => ktr_room); (case ku => ktr_units); (case kp => exact led_list N1 (List.mem_cons_self ..)); k_whole; intro r9 h9 tk9 K9 F9 N9 ho9; (try dsimp only))
  obtain ⟨E, rows, as, rs, e, e9, hT, hrl, hRo, hcl, hnew⟩ := ho9
  subst e9
  have N10 := news_addL F1 N1 K9 hnew
  have hOff2 : ∀ p ∈ (E, W.listOf (as.map Value.ref).toArray e) :: rows, p.1 ≠ L' + 1 + 1 := fresh_off N1 (List.mem_cons_of_mem _ (List.mem_cons_of_mem _ (List.mem_cons_of_mem _ (List.mem_cons_self ..)))) hnew
  have hOff1 : ∀ p ∈ (E, W.listOf (as.map Value.ref).toArray e) :: rows, p.1 ≠ L' + 1 := fresh_off N1 (List.mem_cons_of_mem _ (List.mem_cons_of_mem _ (List.mem_cons_of_mem _ (List.mem_cons_of_mem _ (List.mem_cons_self ..))))) hnew
  have N11 := news_sub (news := _ :: _ :: (E, W.listOf (as.map Value.ref).toArray e) :: rows) N10 (fun p hp => by
    simp only [List.cons_append, List.nil_append]
    exact List.mem_cons_of_mem _ (List.mem_cons_of_mem _ (List.mem_cons_of_mem _ hp)))
  clear N10 N9 N1 F1 K9
  k_steps
  have hnl : rs.length ≤ 11 := hT.few
  refine G_execs_cons (G_If (G_isTrue_cmp ?_))
  rename News _ _ _ _ => N1
  rename Fr _ _ _ _ => F1
  refine G_ListComp_none (its := (as.map Value.ref).toArray) rfl F1 N1 (.inr ⟨_, List.mem_cons_of_mem _ (List.mem_cons_of_mem _ (List.mem_cons_self ..)), rfl, _, rfl⟩) (by rw [sizeLine_eq, List.size_toArray, List.length_map, hRo.1]; omega) ?hi ?step ?done (by with_unfolding_all rfl) (by decide) (by rfl) (by decide) (by rfl)
  case hi =>
    intro Q' hq
    k_steps
    exact hq _
  case step =>
    intro i v I oI C oC D m₂ h tk hv hC hx F2 N2
    obtain ⟨a1, ha1, rfl⟩ := refs_at hv
    obtain ⟨r, hr⟩ := row_of hRo.1 ha1
    obtain ⟨t1, t2, t3, t4, e3, hrow⟩ := hRo.2 i a1 r ha1 hr
    have hrk : r.k = 0 ∨ r.k = 1 ∨ r.k = 2 := by have := hT.kind i r hr; omega
    have hrb := hT.bits i r hr
    clear F1 N1
    refine G_isTrue_not (G_isTrue_plain (G_Call ?_))
    k_steps
    k_dflt (refine' G_callWith_K ?k1 ?k2 ?_; (case k1 => k_asm); (case k2 => first | exact rfl | k_is); k_whole)
    k_steps
    k_dflt (refine' con_useG ?C ?k1 ?k2 ?k3 ?k4 ?k5 ?kK ?kd ?ku ?kp ?_; (case C => exact c_rightI _ _ _ _ _ (by assumption) (by assumption)); (case k1 => k_asm); (case k2 => k_asm); (case k3 => k_asm); (case k4 => k_asm); (case k5 => k_asm); (case kK => first | exact rfl | assumption); (case kd => ktr_room); (case ku => ktr_units); (case kp => trivial); k_whole; intro r9 h9 tk9 K9 F9 N9 ho9; subst ho9; (try dsimp only))
    k_steps
    rename News _ _ _ _ => N3
    rename Fr _ _ _ _ => F3
    exact ⟨rfl, _, _, rfl, F3, N3⟩
  case done =>
    intro D h tk F2 N2
    clear F1 N1
    k_steps
    refine ne_strs (p := []) (q := []) (by is_list) (by is_list) (by simp) (by simp) (by ktr_units) ?_
    rw [show (!decide (([] : List (Str × Tok)).map (·.1) = ([] : List (Str × Tok)).map (·.1))) = false by simp]
    k_steps
    rename News _ _ _ _ => N3
    rename Fr _ _ _ _ => F3
    have N4 := news_sub (news := _ :: _ :: (E, W.listOf (as.map Value.ref).toArray e) :: rows) N3 (fun p hp => List.mem_cons_of_mem _ (List.mem_cons_of_mem _ hp))
    clear N3
    refine (show (if _ then _ else _) from ?_)
    rw [if_neg Bool.false_ne_true]
    refine G_of (wpAny_execs_nil ?_)
    dsimp only
    refine G_execs_cons (G_Assign1 (G_Call ?_))
    k_steps
    k_dflt (refine' G_callWith_K ?k1 ?k2 ?_; (case k1 => k_asm); (case k2 => first | exact rfl | k_is); k_whole)
    k_steps
    rename News _ _ _ _ => N5
    rename Fr _ _ _ _ => F5
    k_dflt (refine' con_useG ?D1 ?D2 ?D3 ?D4 ?D5 ?D6 ?DK ?Dd ?Du ?Dp ?_; (case D1 => exact c_laid w rs hT E as); (case D2 => k_asm); (case D3 => k_asm); (case D4 => k_asm); (case D5 => k_asm); (case D6 => k_asm); (case DK => first | exact rfl | assumption); (case Dd => ktr_room); (case Du => ktr_units); (case Dp => exact rows_at N5 (List.mem_cons_of_mem _ (List.mem_cons_of_mem _ (List.mem_cons_self ..))) (fun p hp => List.mem_cons_of_mem _ (List.mem_cons_of_mem _ (List.mem_cons_of_mem _ hp))) hRo); k_whole; intro r9 h9 tk9 K9 F9 N9 ho9; (try dsimp only))
    obtain ⟨Dt, ot, kvs, e9, hlo, hDn, hDo, hDd, hDf⟩ := ho9
    subst e9
    have N10 := news_add F5 N5 K9 hDn hDo
    have hx2 : @Ne Nat Dt (L' + 1 + 1) := fresh_off (T := [(Dt, ot)]) N5 (List.mem_cons_self ..) (fun p hp => by rw [List.mem_singleton.mp hp]; exact ⟨hDn, hDo⟩) _ (List.mem_singleton_self _)
    clear N9 N5 F5
    k_steps
    refine G_step ?_
    k_steps
    rename News _ _ _ _ => N6
    rename Fr _ _ _ _ => F6
    have hkl : kvs.length = rs.length := by have := congrArg List.length (flat_keys hDf); simpa using this
    refine sorted_keys rfl F6 N6 (List.mem_cons_self ..) hDd hlo (by omega) ?_
    intro B1 hp1 tk1 q1 e1 F7 N7 l7 hP1 hs1
    k_lt l7
    clear F6 N6
    k_steps
    rename News _ _ _ _ => N8
    rename Fr _ _ _ _ => F8
    refine LCg.CompSrc.ledger (by rfl) F8 N8 (List.mem_cons_of_mem _ (List.mem_cons_of_mem _ (List.mem_cons_of_mem _ (List.mem_cons_of_mem _ (List.mem_cons_self ..))))) (by rw [sizeLine_eq, List.size_toArray, List.length_map, hRo.1]; omega) ?_
    intro g8
    refine rest_ind (fun i ys => ∃ q : List (Str × Tok), ys = strValues q ∧ q.map (·.1) = (rs.take i).map fun r => S r.p) ?stepA ?doneA _ 0 [] rfl (Nat.zero_le _) ⟨[], rfl, rfl⟩
    case stepA =>
      rintro i ys hi8 ⟨q, rfl, hq⟩ v I oI C oC D8 m₂ h8 tk8 E8 hv hC hx F9 N9 off9 ne9
      obtain ⟨a1, ha1, rfl⟩ := refs_at hv
      obtain ⟨r, hr⟩ := row_of hRo.1 ha1
      obtain ⟨t1, t2, t3, t4, e3, hrow⟩ := hRo.2 i a1 r ha1 hr
      clear F8 N8
      k_steps
      refine LCg.CompEnd.intro F9 N9 _ (fun p hp => hp) off9 (.inr ⟨_, List.mem_cons_of_mem _ (List.mem_cons_of_mem _ (List.mem_cons_of_mem _ (List.mem_cons_of_mem _ (List.mem_cons_self ..)))), rfl, _, rfl⟩) ⟨rfl, q ++ [(S r.p, t1)], by unfold strValues; simp, ?_⟩
      rw [List.map_append, hq, List.take_add_one, hr]
      simp
    case doneA =>
      rintro ys ⟨q, rfl, hq⟩
      have hsz : (as.map Value.ref).toArray.toList.length = rs.length := by simp [hRo.1]
      rw [hsz, List.take_length] at hq
      have hql : q.length = rs.length := by have := congrArg List.length hq; simpa using this
      clear F8 N8
      k_steps
      rename News _ _ _ _ => N8
      rename Fr _ _ _ _ => F8
      refine sorted_texts F8 N8 (List.mem_cons_self ..) (by omega) ?_
      intro B2 hp2 q2 e2 F9 N9 l9 hP2 hs2
      clear F8 N8
      k_lt l9
      have heq : q1.map (·.1) = q2.map (·.1) := sorted_same (by rw [flat_keys hDf] at hP1; rw [hq] at hP2; exact hP1.trans hP2.symm) hs1 hs2
      have hok : ∀ c ∈ q2.map (·.1), PyData.strOk c = true := fun c hc => path_ok hT (by rw [← hq]; exact hP2.mem_iff.mp hc)
      k_steps
      refine ne_strs (p := q1) (q := q2) (led_list N9 (List.mem_cons_of_mem _ (List.mem_cons_of_mem _ (List.mem_cons_self ..)))) (led_list N9 (List.mem_cons_self ..)) (by rw [heq]; exact hok) hok (by ktr_units) ?_
      rw [show (!decide (q1.map (·.1) = q2.map (·.1))) = false by simp [heq]]
      k_steps
      have N10 := news_sub (news := (Dt, ot) :: _ :: _ :: (E, W.listOf (as.map Value.ref).toArray e) :: rows) N9 (fun p hp => List.mem_cons_of_mem _ (List.mem_cons_of_mem _ (List.mem_cons_of_mem _ hp)))
      clear N9 hP2 hs2 heq hok hP1 hs1 hq hql q q1 q2
      refine (show wpG _ _ _ _ _ from ?_)
      refine G_rest ?_
      k_steps
      rename News _ _ _ _ => N8
      rename Fr _ _ _ _ => F8
      refine LCg.CompSrc.ledger (by rfl) F8 N8 (List.mem_cons_of_mem _ (List.mem_cons_of_mem _ (List.mem_cons_of_mem _ (List.mem_cons_self ..)))) (by rw [sizeLine_eq, List.size_toArray, List.length_map, hRo.1]; omega) ?_
      intro g9
      refine rest_ind (fun i ys => ys = ((List.range i).map (openUp rs)).map Value.bool) ?stepB ?doneB _ 0 [] rfl (Nat.zero_le _) rfl
      case stepB =>
        rintro i ys hi8 rfl v I oI C oC D8 m₂ h8 tk8 E8 hv hC hx F9 N9 off9 ne9
        obtain ⟨a1, ha1, rfl⟩ := refs_at hv
        obtain ⟨r, hr⟩ := row_of hRo.1 ha1
        obtain ⟨t1, t2, t3, t4, e3, hrow⟩ := hRo.2 i a1 r ha1 hr
        clear F8 N8
        k_steps
        k_dflt (refine' con_use ?B1 ?B2 ?B3 ?B4 ?B5 ?B6 ?BK ?Bd ?Bu ?Bp ?_; (case B1 => exact c_through w rs hT Dt i r t1 hr); (case B2 => k_asm); (case B3 => k_asm); (case B4 => k_asm); (case B5 => k_asm); (case B6 => k_asm); (case BK => first | exact rfl | assumption); (case Bd => ktr_room); (case Bu => ktr_units); (case Bp => exact TabAt.ofObj hlo (N9 _ (List.mem_cons_of_mem _ (List.mem_cons_of_mem _ (List.mem_cons_of_mem _ (List.mem_cons_self ..))))).1 hDd hDf); k_whole; intro r9 h9 tk9 K9 F10 N10 ho9; subst ho9; (try dsimp only))
        refine LCg.CompEnd.intro F10 N10 _ (fun p hp => hp) off9 (.inr ⟨_, List.mem_cons_of_mem _ (List.mem_cons_of_mem _ (List.mem_cons_of_mem _ (List.mem_cons_self ..))), rfl, _, rfl⟩) ⟨rfl, by rw [List.range_succ]; simp⟩
      case doneB =>
        rintro ys rfl
        have hsz2 : (as.map Value.ref).toArray.toList.length = rs.length := by simp [hRo.1]
        have hsz3 : (as.map Value.ref).toArray.size = rs.length := by simp [hRo.1]
        have hsz4 : (as.map Value.ref).toArray.size ≤ 20 := by omega
        rw [hsz2]
        clear F8 N8
        k_steps
        rename News _ _ _ _ => N8
        rename Fr _ _ _ _ => F8
        refine LCg.CompSrc.range (n := rs.length) (by rfl) F8 N8 (by assumption) (small_one (by decide) (by decide) (by omega) (by omega)) ((rangeSize_nat _ _).trans (by omega)) (by rw [sizeLine_eq]; omega) ?_
        intro g9
        refine rest_ind (fun i ys => ys = ((List.range i).map (openUp rs)).map Value.bool) ?stepC ?doneC _ 0 [] rfl (Nat.zero_le _) rfl
        case stepC =>
          rintro i ys hi8 rfl v I oI C oC D8 m₂ h8 tk8 E8 ⟨tv, rfl⟩ hC hx F9 N9 off9 ne9
          rw [Int.zero_add] at hx
          clear F8 N8
          k_steps
          k_dflt (refine' con_use ?P1 ?P2 ?P3 ?P4 ?P5 ?P6 ?PK ?Pd ?Pu ?Pp ?_; (case P1 => exact c_open w rs hT E as i tv hi8); (case P2 => k_asm); (case P3 => k_asm); (case P4 => k_asm); (case P5 => k_asm); (case P6 => k_asm); (case PK => first | exact rfl | assumption); (case Pd => ktr_room); (case Pu => ktr_units); (case Pp => exact rows_at N9 (List.mem_cons_of_mem _ (List.mem_cons_of_mem _ (List.mem_cons_of_mem _ (List.mem_cons_of_mem _ (List.mem_cons_of_mem _ (List.mem_cons_of_mem _ (List.mem_cons_of_mem _ (List.mem_cons_self ..)))))))) (fun p hp => List.mem_cons_of_mem _ (List.mem_cons_of_mem _ (List.mem_cons_of_mem _ (List.mem_cons_of_mem _ (List.mem_cons_of_mem _ (List.mem_cons_of_mem _ (List.mem_cons_of_mem _ (List.mem_cons_of_mem _ hp)))))))) hRo); k_whole; intro r9 h9 tk9 K9 F10 N10 ho9; subst ho9; (try dsimp only))
          refine LCg.CompEnd.intro F10 N10 _ (fun p hp => hp) off9 trivial ⟨rfl, by rw [List.range_succ]; simp⟩
        case doneC =>
          rintro ys rfl
          clear F8 N8
          k_steps
          rename News _ _ _ _ => N8
          refine eq_bools (p := (List.range rs.length).map (openUp rs)) (q := (List.range rs.length).map (openUp rs)) (led_list N8 (List.mem_cons_of_mem _ (List.mem_cons_self ..))) (led_list N8 (List.mem_cons_self ..)) (by ktr_units) ?_
          rw [show decide ((List.range rs.length).map (openUp rs) = (List.range rs.length).map (openUp rs)) = true by simp]
          k_steps
          exact hret _ _ (Fr.keep (by k_asm))
end
section
open _root_.PySem _root_.PySem.W _root_.PyProof.Rows _root_.PySem.Calls
set_option maxRecDepth 100000
set_option maxHeartbeats 8000000
theorem the_end : PySem.Challenge.rw_rt0068_01.Holds := hd (by
  w_on
  intro w s₀ s₁ mg mb G Y a o pm cd doc dV kV ho hd' hcd hD hmg hg args vals as hpre hlay hrd hwl hlo
  have KX := kIn_of Y
  have T : Top vw LS (ExcName.means s₀.heap) mg mb s₁.heap := Ground.open G fun T _ _ _ _ => T
  have hl : mg (Str.ofString "law") = some (.ref 273) := mg_of KX T.g (by k_is)
  have ha : a = 273 := by
    have h' : mg (Str.ofString "law") = some (.ref a) := hmg
    rw [hl] at h'
    injection h' with h'
    injection h' with h'
    exact h'.symm
  subst ha
  wrow_args hpre hlay hrd hwl hlo
  rename IntsAre _ _ => hI
  rename Heap.IsList _ _ _ => hL
  rename List Int => ns
  refine G_call ?_
  have d1 : 1 + claimMargin + 40 < recursionLimit := by decide +kernel
  have d2 : 4 + 8 * 60 < cLine := by decide +kernel
  have hQ : ∀ h' tk', Ext s₁.heap h' → GoodWG Challenge.rw_rt0068_01.row.claim (classAt s₀.heap) (ExcName.means s₀.heap) [ofPy (PyData.list (List.map PyData.int ns))] s₁ (Except.ok (Flow.ret (.bool true))) { s₁ with heap := h', toks := tk' } := by
    intro h' tk' hk
    have hn : ∀ cls, Challenge.rw_rt0068_01.row.claim.raises [ofPy (PyData.list (List.map PyData.int ns))] cls = false := raisesW_false (by wrow_none_raised)
    have hp : Challenge.rw_rt0068_01.row.claim.post [ofPy (PyData.list (List.map PyData.int ns))] (.bool true) [ofPy (PyData.list (List.map PyData.int ns))] = true := by wrow_post
    exact GoodW.toG ⟨.inl ⟨.bool true, .bool true, [], rfl, hn, .bool true, hp, unshared_nil⟩, hk, rfl, hg⟩
  have key := g_law w (ExcName.means s₀.heap) mg mb (1 + claimMargin) 4 (some []) [] s₁.heap s₁ _ _ _ (fun v s' => GoodWG Challenge.rw_rt0068_01.row.claim (classAt s₀.heap) (ExcName.means s₀.heap) [ofPy (PyData.list (List.map PyData.int ns))] s₁ (Except.ok (Flow.ret v)) s') (below_caller _) KX T d1 d2 hL hI (by omega) hQ
  exact key)
end
end Mine
set_option maxRecDepth 100000 in
set_option maxHeartbeats 8000000 in
theorem PySem.Challenge.cw_rt0068_01_holds : PySem.Challenge.rw_rt0068_01.Holds :=
  Mine.the_end
