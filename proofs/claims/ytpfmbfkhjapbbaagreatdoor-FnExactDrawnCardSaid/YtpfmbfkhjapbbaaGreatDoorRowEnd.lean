/-
  What a row asks behind a call that turned no cell that was there: the arguments and the named variables read as they did. And the sentinel io.EOF, out of the row's list. No condition.
-/
import Derived.Test.YtpfmbfkhjapbbaaGreatDoorRows
import Derived.Test.YtpfmbfkhjapbbaaGreatDoorMem
import Derived.ProofKit
import Derived.OpenShut
import Derived.OpenVars
import Derived.Stop.LaidErr
import Derived.Stop.ErrReads
import Derived.Deep.DeepHandedRow
import Derived.Deep.DeepWitnessRowRef
namespace Go.Proofs.YtpfmbfkhjapbbaaGreatDoor
open Go Go.ChangeShapes Go.WideShapes Go.ChangeAt Go.RowKit Go.WideElems

theorem Tryz.own : ownKnob Tryz.prog.godebug = none := by kernel_rfl
theorem Tryz.laidOut : laidOutB Tryz.prog = true := by kernel_rfl

section
variable {H : Type} {enc : TypeId × Value → H} {P : Program} {W W' : World} {sp : Nat → Bool}

theorem trodAll_stays (hl : laidOutB P = true) (hb : Below W.heap.size W W') :
    ∀ {ts : List TypeId} {vs : List Value} {ds : List (DataW H)} {ps : List MemPlace}, (∀ t ∈ ts, P.readableRec t = true ∧ t < P.types.size) → (∀ x ∈ ps, x.block < W.heap.size) → (∀ x ∈ ps, sp x.block = true) →
      DataW.TrodAll enc P W 0 (fun _ => true) true ts vs ds ps → DataW.TrodAll enc P W' 0 sp true ts vs ds ps
  | [], _, _, _, _, _, _, h => by
    obtain ⟨rfl, rfl, rfl⟩ := trodAll_nil h
    exact h
  | t :: ts, _, _, _, ht, hlt, hsp, h => by
    obtain ⟨v, vs1, d, ds1, a, b, rfl, rfl, rfl, h1, h2⟩ := trodAll_cons h
    exact ⟨a, b, Trod_stays hl (ht t (by simp)).1 (ht t (by simp)).2 h1 (fun x hx => hb.same (hlt x (by simp [hx]))) (fun x hx => hsp x (by simp [hx])),
      trodAll_stays hl hb (fun t h => ht t (by simp [h])) (fun x hx => hlt x (by simp [hx])) (fun x hx => hsp x (by simp [hx])) h2, rfl⟩

theorem trodVars_stays (hl : laidOutB P = true) (hb : Below W.heap.size W W') :
    ∀ {ns : List String} {gs : List (DataW H)} {ps : List MemPlace}, varsRowed P ns = true → (∀ x ∈ ps, sp x.block = true) → DataW.TrodVars enc P W (fun _ => true) ns gs ps → DataW.TrodVars enc P W' sp ns gs ps
  | [], [], _, _, _, h => h
  | [], _ :: _, _, _, _, h => h.elim
  | _ :: _, [], _, _, _, h => h.elim
  | n :: ns, d :: ds, ps, hv, hsp, h => by
    have hlt := h.lt
    obtain ⟨g, t, cs, fuel, p, q, h1, h2, h3, h4, hs, e⟩ := h
    have hv2 : (P.readableRec t = true ∧ t < P.types.size) ∧ varsRowed P ns = true := by
      simp only [varsRowed, List.all_cons, Bool.and_eq_true] at hv
      refine ⟨?_, hv.2⟩
      obtain ⟨gl, hgl, rfl⟩ := Option.map_eq_some_iff.1 h2
      have := hv.1
      rw [h1] at this
      simpa [hgl] using this
    have h3' : W'.var? P n = some cs := by
      unfold World.var? at h3 ⊢
      rw [h1] at h3 ⊢
      simp only [Option.bind_some] at h3 ⊢
      by_cases hg : g < W.heap.size
      · rw [hb.block g hg]; exact h3
      · rw [Array.getElem?_eq_none (by omega)] at h3
        cases h3
    have hp : ∀ x ∈ p, x ∈ ps := fun x hx => by rw [e]; simp [hx]
    have hq : ∀ x ∈ q, x ∈ ps := fun x hx => by rw [e]; simp [hx]
    exact ⟨g, t, cs, fuel, p, q, h1, h2, h3', DataW.trod_stays (kids_book hl hv2.1.1) (book_sized hv2.1.1) (fun h => by cases h) ⟨hv2.1.2, book_self t⟩ h4 (fun x hx => hb.same (hlt x (hp x hx))) (fun x hx => hsp x (hp x hx)),
      trodVars_stays hl hb hv2.2 (fun x hx => hsp x (hq x hx)) hs, e⟩

/-- BEHIND A CALL THAT TURNED NOTHING THAT WAS THERE: its results are told, its arguments and the named variables read as they did. -/
theorem post_stays (hl : laidOutB P = true) {f : Func} {s : ChangeSpec} {apart fresh handsOn again : Bool} {args : Array Value} {v : Value} {ds gs : List (DataW H)} {before : List MemPlace}
    (hb : Below W.heap.size W W') (hts : ∀ t ∈ f.params.toList, P.readableRec t = true ∧ t < P.types.size) (hvr : varsRowed P s.vars = true)
    (hW : DataW.Whole enc P f.params.toList s.vars apart W args.toList ds gs before)
    (hfa : (s.fn H (ds ++ gs)).args = ds) (hfv : (s.fn H (ds ++ gs)).vars = gs)
    (hres : ∀ (b : Nat) (sp : Nat → Bool) (hd : Bool), DataW.TrodAll enc P W' b sp hd f.resultTypes.toList (v.resultList f.resultTypes.size) (s.fn H (ds ++ gs)).results [])
    (hok : ∀ (j : Nat) (t : TypeId) (r : Value), f.resultTypes[j]? = some t → (v.resultList f.resultTypes.size)[j]? = some r → Value.okWide P W' .any 0 t r) :
    s.post enc P f apart fresh handsOn again W args v W' := by
  have hlt := hW.lt
  have hW' := hW
  obtain ⟨pa, pv, hA, hV, rfl, hz, hn⟩ := hW
  have hargs : ∀ sp : Nat → Bool, (∀ p ∈ pa ++ pv, sp p.block = true) → DataW.TrodAll enc P W' 0 sp true f.params.toList args.toList (s.fn H (ds ++ gs)).args pa := fun sp h => by
    rw [hfa]
    exact trodAll_stays hl hb hts (fun x hx => hlt x (by simp [hx])) (fun x hx => h x (by simp [hx])) hA
  have hvars : ∀ sp : Nat → Bool, (∀ p ∈ pa ++ pv, sp p.block = true) → DataW.TrodVars enc P W' sp s.vars (s.fn H (ds ++ gs)).vars pv := fun sp h => by
    rw [hfv]
    exact trodVars_stays hl hb hvr (fun x hx => h x (by simp [hx])) hV
  have hold : ∀ p ∈ pa ++ pv, (fun b => decide (b < W.heap.size)) p.block = true := fun p hp => by simpa using hlt p hp
  refine ⟨ds, gs, pa ++ pv, [], pa, pv, hW', hres _ _ _, hargs _ hold, hvars _ hold, hb.frame _, fun _ => ?_⟩
  refine ⟨hok, _, _, ([] ++ pa) ++ pv, ⟨[] ++ pa, pv, trodAll_append (hargs _ (fun _ _ => rfl)) (hres _ _ _), hvars _ (fun _ _ => rfl), rfl, ?_, ?_⟩, ?_⟩
  · intro b off hp
    have hm := hz b off (by simpa using hp)
    have : b < W.heap.size := hlt (.cell b off) (by simpa using hp)
    rw [hb.frozen (p := ⟨b, off, none⟩) this]
    exact hm
  · intro ha
    simpa using hn ha
  · intro p hp _
    simpa using hp
end

/-! ### the sentinels -/
theorem gEof : Tryz.prog.globalNamed "io.EOF" = some 0 := by kernel_rfl
theorem gEofType : (Tryz.prog.globals[0]?).map (·.type) = some 95 := by kernel_rfl
theorem cells316 : Tryz.prog.cellsOf 316 = 1 := by kernel_rfl
theorem cells9 : Tryz.prog.cellsOf 9 = 1 := by kernel_rfl
theorem star : "*" ++ "errors.errorString" = "*errors.errorString" := by decide
theorem row254 (u : TypeId) (h : Tryz.prog.typeName? 3 u = some "*errors.errorString") : u = 254 :=
  typeName_ptr_named (nm := "errors.errorString") (by rw [star]; kernel_rfl) (by kernel_rfl) (by decide) u (by rw [star]; exact h)

/-- The list of the small laws' rows. -/
abbrev smallLaid : List (String × DataW Unit) := [("io.EOF", Rows.laid_io_EOF), ("loop.example/pub-pointsofhashes/pub/bigall.errNoDigits", Rows.laid_loop_example_pub_pointsofhashes_pub_bigall_errNoDigits), ("loop.example/pub-pointsofhashes/pub/bigall.errInvalSep", Rows.laid_loop_example_pub_pointsofhashes_pub_bigall_errInvalSep)]

/-- io.EOF's cell holds an errors.errorString's pointer. -/
theorem eof_of_laid {W : World} {text : List UInt8} {r : List (String × DataW Unit)} (h : laidMet Tryz.prog (("io.EOF", .iface "*errors.errorString" (.ptr (.agg [.lit (.string text)]))) :: r) W) :
    ∃ a : Addr, W.cell? ⟨0, 0, none⟩ = some (.iface 254 (.pointer (some a))) := by
  obtain ⟨a, s, hv, _⟩ := laid_sentinel h gEof gEofType Tryz.underlying95 row254 Tryz.underlying254 Tryz.underlying316 rfl rfl Tryz.underlying9 cells316 cells9
  exact ⟨a, by simpa using World.var?_cell gEof hv 0⟩

abbrev eofS : ByteArray := { data := #[69, 79, 70] }
abbrev noDigitsS : ByteArray := { data := #[110, 117, 109, 98, 101, 114, 32, 104, 97, 115, 32, 110, 111, 32, 100, 105, 103, 105, 116, 115] }
abbrev invalSepS : ByteArray := { data := #[39, 95, 39, 32, 109, 117, 115, 116, 32, 115, 101, 112, 97, 114, 97, 116, 101, 32, 115, 117, 99, 99, 101, 115, 115, 105, 118, 101, 32, 100, 105, 103, 105, 116, 115] }
noncomputable def low : Nat := (World.holding Tryz.prog default ⟨#[], #[], []⟩).heap.size

/-- A WORLD FOR THE WITNESS: the settled one, each listed variable holding a new error of its text. -/
noncomputable def laidWorld (os : Os) : World :=
  let w0 := World.holding Tryz.prog os ⟨#[.cells #[.string eofS] 316, .cells #[.string invalSepS] 316, .cells #[.string noDigitsS] 316], #[], []⟩
  { w0 with heap := ((w0.heap.modify 0 fun
      | .cells _ t frozen => .cells #[.iface 254 (.pointer (some ⟨low, 0, none⟩))] t frozen
      | o => o).modify 1 fun
      | .cells _ t frozen => .cells #[.iface 254 (.pointer (some ⟨low + 1, 0, none⟩))] t frozen
      | o => o).modify 2 fun
      | .cells _ t frozen => .cells #[.iface 254 (.pointer (some ⟨low + 2, 0, none⟩))] t frozen
      | o => o }

theorem laidWorld_met (os : Os) (args : Array Value) : laidMet Tryz.prog smallLaid ((laidWorld os).forCall (fun _ _ => 0) ⟨#[], args, []⟩).memory :=
  laidMet_of_run' 8 (by kernel_rfl) (by kernel_rfl)
end Go.Proofs.YtpfmbfkhjapbbaaGreatDoor
