import PyProof.Rows.All
import Wide.All
import OpenK.AllK
import Wide.FinOn
import PyProof.RulesRaise
import PyProof.FactsTree
import PyProof.Rows.SortShell
import PyProof.Rows.SortWalk
import PyProof.SetScanFacts
import PyProof.Rows.SetFrom
import PyProof.CollectWalk
import PyProof.CollectStr
import PySem.Challenge.RW_km0001_01
set_option Elab.async false

section
open PySem PySem.W PyProof.Rows
namespace Mine
set_option maxRecDepth 100000 in
set_option maxHeartbeats 8000000 in
open_top hd for PySem.Challenge.rw_km0001_01
end Mine
end

section
open PySem PySem.W PyProof.Rows PySem.Calls PySem.Spec
set_option maxRecDepth 100000
namespace Mine

/-- what stood in h0 stands in h; the frames' own objects up to their slots -/
structure Kp (fs : List Addr) (h0 h : Heap) : Prop where
  same : ∀ b o, h0.get? b = some o → b ∉ fs → h.get? b = some o
  slot : ∀ b o, h0.get? b = some o → b ∈ fs → ∃ sl, h.get? b = some { o with slots := sl }

theorem Kp.refl (fs : List Addr) (h : Heap) : Kp fs h h := ⟨fun _ _ e _ => e, fun _ o e _ => ⟨o.slots, e⟩⟩
theorem Kp.some {fs : List Addr} {h0 h : Heap} (K : Kp fs h0 h) {b : Addr} {o : Obj} (e : h0.get? b = some o) : ∃ sl, h.get? b = some { o with slots := sl } := by
  by_cases hb : b ∈ fs
  · exact K.slot b o e hb
  · exact ⟨o.slots, K.same b o e hb⟩
theorem Kp.none {fs : List Addr} {h0 h : Heap} (K : Kp fs h0 h) {b : Addr} (e : h.get? b = none) : h0.get? b = none := by
  cases q : h0.get? b with
  | none => rfl
  | some o =>
    obtain ⟨sl, hs⟩ := K.some q
    rw [e] at hs; cases hs
theorem Kp.keeps {fs : List Addr} {h0 h h' : Heap} (K : Kp fs h0 h) (k : ∀ b o, h.get? b = Option.some o → h'.get? b = Option.some o) : Kp fs h0 h' :=
  ⟨fun b o e n => k _ _ (K.same b o e n), fun b o e n => by obtain ⟨sl, hs⟩ := K.slot b o e n; exact ⟨sl, k _ _ hs⟩⟩
theorem Kp.push {fs : List Addr} {h0 h : Heap} (K : Kp fs h0 h) (o : Obj) : Kp fs h0 (h.push o) := K.keeps fun _ _ e => Heap.get?_push_of_some _ e
theorem Kp.upd {fs : List Addr} {h0 h : Heap} (K : Kp fs h0 h) {a : Addr} (ha : h0.get? a = Option.none) (f : Obj → Obj) : Kp fs h0 (h.update a f) := by
  have ne : ∀ b o, h0.get? b = Option.some o → a ≠ b := fun b o e q => by rw [q, e] at ha; cases ha
  exact ⟨fun b o e n => (Heap.get?_update_other _ _ (ne b o e)).trans (K.same b o e n), fun b o e n => by
    obtain ⟨sl, hs⟩ := K.slot b o e n; exact ⟨sl, (Heap.get?_update_other _ _ (ne b o e)).trans hs⟩⟩
theorem Kp.slots {fs : List Addr} {h0 h h' : Heap} (K : Kp fs h0 h) (S : Heap.SlotsOnly fs h h') : Kp fs h0 h' :=
  ⟨fun b o e n => (S.2.1 b n).trans (K.same b o e n), fun b o e n => by
    obtain ⟨sl, hs⟩ := K.slot b o e n
    obtain ⟨sl', hs'⟩ := S.2.2 b _ hs
    exact ⟨sl', hs'⟩⟩
theorem Kp.frames {fs : List Addr} {h0 h hb : Heap} (K : Kp fs h0 h) {l : List Env} (FF : h0.FunFrames hb l) : h.FunFrames hb l :=
  FF.of_keeps fun b o e _ => by
    obtain ⟨sl, hs⟩ := K.some e
    exact ⟨_, hs, rfl⟩

/-- an exception of the built-in class X that is new since h0: its context c, its traceback's flight fl (none: no traceback yet) -/
def ExcAt (h0 h : Heap) (e : Addr) (X : String) (c : Value) (fl : Option Value) : Prop :=
  h0.get? e = none ∧ ∃ ob vs, h.get? e = some ob ∧ ob.cls = .type X ∧ ob.data = .fields vs ∧ vs[2]? = some c ∧
    match fl with
    | none => vs[1]? = some .none
    | some x => ∃ T oT ts, vs[1]? = some (.ref T) ∧ h0.get? T = none ∧ T ≠ e ∧ h.get? T = some oT ∧ oT.data = .fields ts ∧ ts[3]? = some x

theorem ExcAt.keeps {h0 h h' : Heap} {e : Addr} {X : String} {c : Value} {fl : Option Value} (x : ExcAt h0 h e X c fl) (k : ∀ b o, h.get? b = some o → h'.get? b = some o) : ExcAt h0 h' e X c fl := by
  obtain ⟨h1, ob, vs, h2, h3, h4, h5, h6⟩ := x
  refine ⟨h1, ob, vs, k _ _ h2, h3, h4, h5, ?_⟩
  cases fl with
  | none => exact h6
  | some y =>
    obtain ⟨T, oT, ts, a1, a2, a3, a4, a5, a6⟩ := h6
    exact ⟨T, oT, ts, a1, a2, a3, k _ _ a4, a5, a6⟩
theorem ExcAt.isA {h0 h : Heap} {e : Addr} {X : String} {c : Value} {fl : Option Value} (x : ExcAt h0 h e X c fl) : ∃ ob, h.get? e = some ob ∧ ob.cls = .type X := by
  obtain ⟨_, ob, _, h2, h3, _⟩ := x
  exact ⟨ob, h2, h3⟩

section
variable {M : Model} {A : Around} {E : Value → Shared → Prop} {s : Shared} {hb h0 : Heap} {env : Env} {l : List Env} {L e : Addr} {X : String} {c : Value} {Q : Unit → Shared → Prop}

theorem flight0 {fr : Option Addr} (x : ExcAt h0 s.heap e X c none) (k : Q () s) : wpAny M A (setFlight (.ref e) fr) Q E s := by
  obtain ⟨_, ob, vs, he, hc, hd, h2, h1⟩ := x
  unfold setFlight
  refine wpAny_bind (wpAny_field he hd h1 ?_)
  rw [if_neg (by decide)]
  exact wpAny_pure k

theorem flight {fs : List Addr} {y : Value} {fr : Option Addr} (K : Kp fs h0 s.heap) (x : ExcAt h0 s.heap e X c (some y))
    (k : ∀ h', Kp fs h0 h' → ExcAt h0 h' e X c (some (fr.elim .none fun f => rawInt f)) → Q () { s with heap := h' }) : wpAny M A (setFlight (.ref e) fr) Q E s := by
  obtain ⟨hn, ob, vs, he, hc, hd, h2, T, oT, ts, h1, hTn, hTe, hT, hTd, h3⟩ := x
  have hsz := (Array.getElem?_eq_some_iff.mp h3).1
  unfold setFlight
  refine wpAny_bind (wpAny_field he hd h1 ?_)
  rw [if_pos (show (Value.ref T != Value.none) = true from by simp)]
  refine wpAny_setField hT hTd hsz (k _ (K.upd hTn _) ⟨hn, ob, vs, (Heap.get?_update_other _ _ hTe).trans he, hc, hd, h2, T, _, _, h1, hTn, hTe,
    Heap.get?_update_self _ hT (Obj.isFreed_of_fields (Obj.data_mapFields hTd _)), Obj.data_mapFields hTd _, by simp [hsz]⟩)

theorem entry {fs : List Addr} {head : Value} {had : Bool} {ob : Obj} {vs : Array Value} (hA : A.frames = some (env :: l)) (hf : env.frame = some L) (FF : h0.FunFrames hb (env :: l))
    (hfs : ∀ b ∈ (env :: l).filterMap (·.frame), b ∈ fs) (K : Kp fs h0 s.heap) (hn : h0.get? e = none) (he : s.heap.get? e = some ob) (hc : ob.cls = .type X) (hd : ob.data = .fields vs) (hsz : 1 < vs.size) (h2 : vs[2]? = some c)
    (k : ∀ h', Kp fs h0 h' → ExcAt h0 h' e X c (some (rawInt L)) → Q () { s with heap := h' }) :
    wpAny M A (do let a ← frameOf env; let pl ← entryPlaceOf L had; let b ← EntryCells.newEntry head a .none (rawInt L) .none pl; setField (.ref e) 1 b) Q E s := by
  have FF' := K.frames FF
  have hef : e ∉ (env :: l).filterMap (·.frame) := fun hm => by
    obtain ⟨_, o, ho, hnf⟩ := FF'.mem hm
    rw [he] at ho; injection ho with ho; subst ho; exact hnf vs hd
  refine wpAny_bind (wpAny_frameOf_fun hA FF' hf fun h₁ hs₁ => ?_)
  refine wpAny_bind (wpAny_entryPlaceOf fun pl hpl => ?_)
  unfold EntryCells.newEntry newFields
  refine wpAny_bind (wpAny_newObj_type ?_ (hpl.sizeOk5 _ _ _ _ _))
  have K₁ : Kp fs h0 h₁ := K.slots (hs₁.mono hfs)
  have he₁ : h₁.get? e = some ob := (hs₁.2.1 e hef).trans he
  have hTe : h₁.objs.size ≠ e := Nat.ne_of_gt (Heap.lt_size he₁)
  have hTn : h0.get? h₁.objs.size = none := K₁.none (Heap.get?_none_of_le (Nat.le_refl _))
  have he₂ := Heap.get?_push_of_some (h := h₁) { cls := .type "traceback", dict := none, data := .fields ([head, .ref L, .none, rawInt L, .none] ++ (if pl.isEmpty then List.replicate 6 Value.none else pl)).toArray } he₁
  refine wpAny_setField he₂ hd hsz (k _ ((K₁.push _).upd hn _) ⟨hn, _, _, Heap.get?_update_self _ he₂ (Obj.isFreed_of_fields (Obj.data_mapFields hd _)), ?_, Obj.data_mapFields hd _, ?_, h₁.objs.size, _, _, ?_, hTn, hTe,
    (Heap.get?_update_other _ _ (Ne.symm hTe)).trans (Heap.get?_push_size h₁ rfl), rfl, ?_⟩)
  · exact (Obj.cls_mapFields _ _).trans hc
  · simpa [Array.getElem?_setIfInBounds] using h2
  · simp [hsz]
  · simp

theorem note {fs : List Addr} {fl : Option Value} (hA : A.frames = some (env :: l)) (hf : env.frame = some L) (FF : h0.FunFrames hb (env :: l))
    (hfs : ∀ b ∈ (env :: l).filterMap (·.frame), b ∈ fs) (K : Kp fs h0 s.heap) (x : ExcAt h0 s.heap e X c fl) (hfl : fl ≠ some (rawInt L))
    (k : ∀ h', Kp fs h0 h' → ExcAt h0 h' e X c (some (rawInt L)) → Q () { s with heap := h' }) : wpAny M A (noteFrame (.ref e) env) Q E s := by
  obtain ⟨hn, ob, vs, he, hc, hd, h2, hx⟩ := x
  have hsz : 1 < vs.size := Nat.lt_of_succ_lt (Array.getElem?_eq_some_iff.mp h2).1
  unfold noteFrame
  simp only [hf]
  cases fl with
  | none =>
    refine wpAny_bind (wpAny_field he hd hx ?_)
    rw [if_neg (by decide)]
    exact entry hA hf FF hfs K hn he hc hd hsz h2 k
  | some y =>
    obtain ⟨T, oT, ts, h1, hTn, hTe, hT, hTd, h3⟩ := hx
    refine wpAny_bind (wpAny_field he hd h1 ?_)
    rw [if_pos (show (Value.ref T != Value.none) = true from by simp)]
    refine wpAny_bind (wpAny_field hT hTd h3 ?_)
    rw [if_neg (show ¬ ((y == rawInt L) = true) from fun q => hfl (by rw [beq_iff_eq.mp q]))]
    refine wpAny_bind (wpAny_setField hT hTd (Array.getElem?_eq_some_iff.mp h3).1 ?_)
    exact entry hA hf FF hfs (K.upd hTn _) hn ((Heap.get?_update_other _ _ hTe).trans he) hc hd hsz h2 k
end
end Mine
end

section
open PySem PySem.W PyProof.Rows PySem.Calls PySem.Spec
set_option maxRecDepth 100000
namespace Mine
open PySem.Builtin PySem.Builtin._codecs

theorem encode_tree (x : Str) (t u : Tok) : «str.encode» ⟨[.str x t, .str (Str.ofString "ascii") u], []⟩ = (do ret (← (do mkBytes (← encodeNarrow "str.encode" asciiCodec none (.str x t) x)))) := by
  kernel_rfl

def bytesOf (x : Str) : Array UInt8 := x.cps.map (·.toUInt8)
theorem push_fold (xs : List Nat) (acc : Array UInt8) : xs.foldl (fun acc y => acc ++ #[y.toUInt8]) acc = acc ++ (xs.map (·.toUInt8)).toArray := by
  induction xs generalizing acc with
  | nil => simp
  | cons a r ih => simp [ih]

theorem narrow_ok (x : Str) (v : Value) (h : ∀ c ∈ x.cps, c < 128) (hx : x.cps.size ≤ 1000) : encodeNarrow "str.encode" asciiCodec none v x = pure (bytesOf x) := by
  unfold encodeNarrow
  simp only [Std.Legacy.Range.forIn_eq_forIn_range']
  generalize hf : (fun (x_1 : Nat) (__s : Nat × Array UInt8 × Faults) => _) = f
  have hn : [:x.length].size = x.cps.size := by simp [Std.Legacy.Range.size]; rfl
  rw [hn]
  have hL : (1000 : Nat) ≤ sizeLine := by decide
  have hbs : (bytesOf x).size = x.cps.size := by simp [bytesOf]
  have hf1 : ∀ i b (z : Faults), b.size ≤ sizeLine → f i (x.cps.size, b, z) = pure (ForInStep.done (x.cps.size, b, z)) := by
    intro i b z hb
    rw [← hf]; clear hf
    dsimp only
    rw [if_neg (by omega)]
    simp
  cases hsz : x.cps.size with
  | zero =>
    have : x.cps = #[] := Array.eq_empty_of_size_eq_zero hsz
    simp [bytesOf, this]
  | succ k =>
    have h0 : x.cps[0]? = some x.cps[0] := by simp [hsz]
    have hf0 : f 0 (0, #[], {}) = pure (ForInStep.yield (x.cps.size, bytesOf x, {})) := by
      rw [← hf]; clear hf
      dsimp only
      rw [if_neg (by simp)]
      rw [h0]
      have hb : asciiCodec.bad x.cps[0] = false := by
        have := h _ (Array.getElem_mem (xs := x.cps) (i := 0) (by omega))
        simp [asciiCodec]; omega
      have hnone : Array.findIdx? asciiCodec.bad x.cps = none := by
        rw [Array.findIdx?_eq_none_iff]
        intro c hc
        have := h c hc
        simp [asciiCodec]; omega
      have hfold : Array.foldl (fun acc y => acc ++ (asciiCodec.bytesOf y).toArray) #[] x.cps = bytesOf x := by
        rw [← Array.foldl_toList]
        show List.foldl (fun acc y => acc ++ #[y.toUInt8]) #[] x.cps.toList = _
        rw [push_fold]
        apply Array.ext'; simp [bytesOf]
      simp [hb, hnone, hfold]
    rw [List.range'_succ, List.forIn_cons, hf0]
    cases k with
    | zero => simp
    | succ j =>
      rw [List.range'_succ]
      simp only [pure_bind, List.forIn_cons, hf1 _ _ _ (by omega : (bytesOf x).size ≤ sizeLine)]

theorem narrow_bad (x : Str) (v : Value) (h : ¬ ∀ c ∈ x.cps, c < 128) (hx : x.cps.size ≤ 1000) :
    ∃ start stop tag, start ≤ 1000 ∧ stop ≤ 2000 ∧ ∃ K : PUnit → Sem (Array UInt8), encodeNarrow "str.encode" asciiCodec none v x = (rule tag >>= fun _ => raiseEncodeFault {} "ascii" v start stop "ordinal not in range(128)" >>= K) := by
  unfold encodeNarrow
  simp only [Std.Legacy.Range.forIn_eq_forIn_range']
  generalize hf : (fun (x_1 : Nat) (__s : Nat × Array UInt8 × Faults) => _) = f
  have hn : [:x.length].size = x.cps.size := by simp [Std.Legacy.Range.size]; rfl
  rw [hn]
  have hL : (1000 : Nat) ≤ sizeLine := by decide
  have hs : ((none : Option Str).getD (Str.ofString "strict")).toString = "strict" := by decide +kernel
  have hf1 : ∀ i j b c, b.size ≤ sizeLine → x.cps[j]? = some c → ¬ c < 128 → ∃ stop tag, stop ≤ 2000 ∧ ∃ K : PUnit → Sem (ForInStep (Nat × Array UInt8 × Faults)), f i (j, b, {}) = (rule tag >>= fun _ => raiseEncodeFault {} "ascii" v j stop "ordinal not in range(128)" >>= K) := by
    intro i j b c hb hc hbad
    rw [← hf]; clear hf
    dsimp only
    rw [if_neg (by omega), hc]
    have hb : asciiCodec.bad c = true := by simp [asciiCodec]; omega
    have h2 : (("strict" : String) == "strict" && !asciiCodec.name == "utf-8") = true := by decide +kernel
    simp only [hb, Bool.not_true, Bool.false_eq_true, if_false, hs, h2, if_true]
    refine ⟨_, _, ?_, _, rfl⟩
    have hj : j < x.cps.size := (Array.getElem?_eq_some_iff.mp hc).1
    cases hfi : Array.findIdx? (fun y => !asciiCodec.bad y) (x.cps.extract j) with
    | none => simp only [Option.getD_none]; omega
    | some m =>
      obtain ⟨hml, _⟩ := Array.findIdx?_eq_some_iff_getElem.mp hfi
      simp only [Array.size_extract] at hml
      simp only [Option.getD_some]; omega
  have lift : ∀ {α β γ : Type} (tag : String) (R : Sem α) (K : α → Sem β) (G : β → Sem γ), ((rule tag >>= fun _ => R >>= K) >>= G) = (rule tag >>= fun _ => R >>= fun a => K a >>= G) := by
    intro α β γ tag R K G
    simp only [bind_assoc]
  obtain ⟨k, hk⟩ : ∃ k, x.cps.size = k + 1 := by
    cases hsz : x.cps.size with
    | zero =>
      exfalso; apply h
      have : x.cps = #[] := Array.eq_empty_of_size_eq_zero hsz
      simp [this]
    | succ k => exact ⟨k, rfl⟩
  rw [hk, List.range'_succ, List.forIn_cons]
  have h0 : x.cps[0]? = some x.cps[0] := by simp [hk]
  by_cases hc0 : x.cps[0] < 128
  · obtain ⟨m, hm⟩ : ∃ m, Array.findIdx? asciiCodec.bad x.cps = some m := by
      cases hfi : Array.findIdx? asciiCodec.bad x.cps with
      | some m => exact ⟨m, rfl⟩
      | none =>
        exfalso; apply h
        rw [Array.findIdx?_eq_none_iff] at hfi
        intro c hc
        have := hfi c hc
        simp [asciiCodec] at this; omega
    obtain ⟨hml, hmb, _⟩ := Array.findIdx?_eq_some_iff_getElem.mp hm
    have hmb' : ¬ x.cps[m] < 128 := by simp [asciiCodec] at hmb; omega
    have hm0 : m ≠ 0 := fun q => by subst q; exact hmb' hc0
    have hf0 : ∃ b : Array UInt8, b.size ≤ sizeLine ∧ f 0 (0, #[], {}) = pure (ForInStep.yield (m, b, {})) := by
      rw [← hf]; clear hf hf1
      refine ⟨((x.cps.extract 0 m).toList.map (·.toUInt8)).toArray, by simp; omega, ?_⟩
      dsimp only
      rw [if_neg (by simp)]
      rw [h0]
      have hb : asciiCodec.bad x.cps[0] = false := by
        simp [asciiCodec]; omega
      have hfold : Array.foldl (fun acc y => acc ++ (asciiCodec.bytesOf y).toArray) #[] (x.cps.extract 0 m) = ((x.cps.extract 0 m).toList.map (·.toUInt8)).toArray := by
        rw [← Array.foldl_toList]
        show List.foldl (fun acc y => acc ++ #[y.toUInt8]) #[] (x.cps.extract 0 m).toList = _
        rw [push_fold]
        simp
      simp only [hb, Bool.not_false, if_true, Array.extract_size, Array.extract_zero, hm, Option.getD_some, hfold, Nat.zero_add]
    obtain ⟨b, hbl, e0⟩ := hf0
    obtain ⟨j, hj⟩ : ∃ j, k = j + 1 := ⟨k - 1, by omega⟩
    obtain ⟨stop, tag, hst, K, e⟩ := hf1 1 m b _ hbl (by simp [hml]) hmb'
    rw [e0, hj]
    simp only [pure_bind]
    rw [List.range'_succ, List.forIn_cons, e, lift, lift]
    exact ⟨_, _, _, (by omega), hst, _, rfl⟩
  · obtain ⟨stop, tag, hst, K, e⟩ := hf1 0 0 #[] _ (by simp) h0 hc0
    rw [e, lift, lift]
    exact ⟨_, _, _, (by omega), hst, _, rfl⟩
end Mine
end

section
open PySem PySem.W PyProof.Rows PySem.Calls PySem.Spec
set_option maxRecDepth 100000
namespace Mine
open PySem.Builtin PySem.Builtin.UnicodeEncodeError

abbrev fl6 (v0 v5 : Value) (own : List Value) : Array Value := (v0 :: Value.none :: Value.none :: Value.none :: Value.bool false :: v5 :: own).toArray

/-- e, new since h0, an object of the class with n own members; nothing older turned -/
structure Mk (h0 h : Heap) (e : Addr) (own : List Value) : Prop where
  keep : ∀ b o, h0.get? b = some o → h.get? b = some o
  new : h0.get? e = none
  obj : ∃ ob v0 v5, h.get? e = some ob ∧ ob.cls = .type "UnicodeEncodeError" ∧ ob.data = .fields (fl6 v0 v5 own)

section
variable {M : Model} {A : Around} {E : Value → Shared → Prop} {s : Shared} {h0 : Heap} {e : Addr} {own : List Value}
theorem Mk.upd {h : Heap} {own' : List Value} (X : Mk h0 h e own) (f : Array Value → Array Value) (hf : ∀ v0 v5, ∃ w0 w5, f (fl6 v0 v5 own) = fl6 w0 w5 own') :
    Mk h0 (h.update e (Obj.mapFields f)) e own' := by
  obtain ⟨k, n, ob, v0, v5, he, hc, hd⟩ := X
  obtain ⟨w0, w5, hw⟩ := hf v0 v5
  refine ⟨fun b o hb => (Heap.get?_update_other _ _ (fun q => by rw [← q, n] at hb; cases hb)).trans (k b o hb), n, _, w0, w5, Heap.get?_update_self _ he (Obj.isFreed_of_fields (Obj.data_mapFields hd _)), (Obj.cls_mapFields _ _).trans hc, ?_⟩
  rw [Obj.data_mapFields hd, hw]
theorem members_nil {Q : Members → Shared → Prop} (X : Mk h0 s.heap e []) (k : Q {} s) : wpAny M A (members (.ref e)) Q E s := by
  obtain ⟨_, _, ob, v0, v5, he, hc, hd⟩ := X
  unfold members
  exact wpAny_bind (wpAny_fieldsOf he hd (wpAny_pure k))
theorem members_five {Q : Members → Shared → Prop} {a b r : Value} {i j : Int} {t u : Tok} (X : Mk h0 s.heap e [a, b, .int i t, .int j u, r]) (k : Q { encoding := a, object := b, start := i, stop := j, reason := r } s) : wpAny M A (members (.ref e)) Q E s := by
  obtain ⟨_, _, ob, v0, v5, he, hc, hd⟩ := X
  unfold members
  exact wpAny_bind (wpAny_fieldsOf he hd (wpAny_pure k))
theorem set_members {Q : Unit → Shared → Prop} {m : Members} (X : Mk h0 s.heap e own)
    (k : ∀ h', Mk h0 h' e [m.encoding, m.object, rawInt m.start, rawInt m.stop, m.reason] → Q () { s with heap := h' }) : wpAny M A (setMembers (.ref e) m) Q E s := by
  have X' := X.upd (own' := [m.encoding, m.object, rawInt m.start, rawInt m.stop, m.reason]) (fun vs => vs.extract 0 6 ++ #[m.encoding, m.object, rawInt m.start, rawInt m.stop, m.reason])
    (fun v0 v5 => ⟨v0, v5, by simp⟩)
  obtain ⟨_, _, ob, v0, v5, he, hc, hd⟩ := X
  unfold setMembers
  refine wpAny_updateFields he hd (k _ X') ?_
  have : sizeLine = 2 ^ 24 := rfl
  simp
  omega

theorem begin_init {Q : Value × List Value → Shared → Prop} {a b c d r : Value} (X : Mk h0 s.heap e []) 
    (k : ∀ h' own, own.length = 5 → (∃ x1 x2 i t j u x5, own = [x1, x2, .int i t, .int j u, x5]) → Mk h0 h' e own → Q (.ref e, [a, b, c, d, r]) { s with heap := h' }) :
    wpAny M A (beginInit "UnicodeEncodeError.__init__" 5 ⟨[.ref e, a, b, c, d, r], []⟩) Q E s := by
  unfold beginInit
  dsimp only
  have X0 := X
  obtain ⟨_, hn, ob, v0, v5, he, hc, hd⟩ := X
  rw [if_neg (by decide)]
  refine wpAny_bind (wpAny_field he hd rfl ?_)
  refine wpAny_bind (wpAny_newTuple ?_ (by show 5 ≤ sizeLine; decide))
  have X1 : Mk h0 (s.heap.push { cls := .type "tuple", data := .seq [a, b, c, d, r].toArray }) e [] := ⟨fun b o hb => Heap.get?_push_of_some _ (X0.keep b o hb), hn, ob, v0, v5, Heap.get?_push_of_some _ he, hc, hd⟩
  refine wpAny_bind (wpAny_setField (Heap.get?_push_of_some _ he) hd (by simp) ?_)
  have X2 := X1.upd (own' := []) (fun vs => vs.setIfInBounds 0 (.ref s.heap.objs.size)) (fun w0 w5 => ⟨_, w5, rfl⟩)
  refine wpAny_bind (wpAny_letGo ?_)
  rw [if_pos (by decide)]
  refine wpAny_bind (members_nil X2 ?_)
  refine wpAny_bind (set_members X2 fun h3 X3 => ?_)
  refine wpAny_bind (wpAny_letGo ?_)
  refine wpAny_bind (members_five X3 ?_)
  refine wpAny_bind (set_members X3 fun h4 X4 => ?_)
  refine wpAny_bind (wpAny_letGo ?_)
  refine wpAny_bind (members_five X4 ?_)
  refine wpAny_bind (set_members X4 fun h5 X5 => ?_)
  refine wpAny_bind (wpAny_letGo ?_)
  rw [if_neg (by simp)]
  exact wpAny_pure (k _ _ rfl ⟨_, _, _, _, _, _, _, rfl⟩ X5)

theorem init_uee {Q : Fin → Shared → Prop} {a x r : Str} {i j : Int} {t1 t2 t3 t4 t5 : Tok} (X : Mk h0 s.heap e []) (hi : -(2^63) ≤ i ∧ i < 2^63) (hj : -(2^63) ≤ j ∧ j < 2^63)
    (k : ∀ h' own, Mk h0 h' e own → Q (.done (.ret .none)) { s with heap := h' }) :
    wpAny M A («UnicodeEncodeError.__init__» ⟨[.ref e, .str a t1, .str x t2, .int i t3, .int j t4, .str r t5], []⟩) Q E s := by
  unfold «UnicodeEncodeError.__init__»
  refine wpAny_bind (begin_init X fun h1 own _ hown X1 => ?_)
  obtain ⟨x1, x2, i', t', j', u', x5, rfl⟩ := hown
  dsimp only
  refine wpAny_bind (wpAny_of_eq (a := ()) rfl ?_)
  refine wpAny_bind (wpAny_of_eq (a := ()) rfl ?_)
  refine wpAny_bind ?_
  unfold initRange
  have h1 : (decide (i < -(2 ^ 63 : Int)) || decide (i ≥ 2 ^ 63)) = false := by simp; omega
  have h2 : (decide (j < -(2 ^ 63 : Int)) || decide (j ≥ 2 ^ 63)) = false := by simp; omega
  have e1 : sizeArgument "UnicodeEncodeError.__init__" (.int i t3) = pure i := by
    show (if (decide (i < -(2 ^ 63 : Int)) || decide (i ≥ 2 ^ 63)) = true then _ else _) = _
    rw [h1]; rfl
  have e2 : sizeArgument "UnicodeEncodeError.__init__" (.int j t4) = pure j := by
    show (if (decide (j < -(2 ^ 63 : Int)) || decide (j ≥ 2 ^ 63)) = true then _ else _) = _
    rw [h2]; rfl
  rw [e1, e2]
  refine wpAny_bind (wpAny_pure ?_)
  refine wpAny_bind (members_five X1 ?_)
  refine wpAny_bind (set_members X1 fun h3 X3 => ?_)
  refine wpAny_bind (wpAny_pure ?_)
  refine wpAny_bind (members_five X3 ?_)
  refine set_members X3 fun h4 X4 => ?_
  refine wpAny_bind (wpAny_of_eq (a := ()) rfl ?_)
  refine wpAny_bind (members_five X4 ?_)
  refine wpAny_bind (set_members X4 fun h5 X5 => ?_)
  exact wpAny_pure (k _ _ X5)
end

theorem uee_new : ExcNewFacts "UnicodeEncodeError" "UnicodeEncodeError.__new__" where
  ends := by decide +kernel
  owner := by decide +kernel
  entry := entryFor_alias (id' := "BaseException.__new__") (by rw [fastTable_eq_tree]; kernel_rfl) (by first | rfl | decide +kernel) (by decide +kernel) (by rw [fastTable_eq_tree]; kernel_rfl)
  sub := by rw [isSubtype_type]; kernel_rfl
  notAttr := by rw [isSubtype_type]; kernel_rfl
  notName := by rw [isSubtype_type]; kernel_rfl
  made := by kernel_rfl
theorem uee_init : Slot "UnicodeEncodeError" "__init__" "UnicodeEncodeError.__init__" := .of (owner := "UnicodeEncodeError") (n := "__init__") (by rw [typeLookup_type, builtinLookup_eq_fast]; kernel_rfl) (by decide +kernel) (by decide +kernel) (by decide +kernel)
    (by first | exact .inl (by decide +kernel) | exact .inr (by decide +kernel)) (by rw [isSubtype_type]; kernel_rfl)
theorem uee_initEntry : entryFor table "UnicodeEncodeError.__init__" = some Builtin.«UnicodeEncodeError.__init__» := entryFor_of_tree (by kernel_rfl)
theorem uee_args (e a b c d r : Value) : argsOk "UnicodeEncodeError.__init__" ⟨[e, a, b, c, d, r], []⟩ := by unfold argsOk; kernel_rfl
theorem uee_can : ((Manifest.find? "UnicodeEncodeError").bind fun x => List.findSome? (fun t => (Manifest.find? t).bind fun b =>
    if b.noNew = true then some true else if (b.attrs.any fun x => x.fst == "__new__") = true then some false else none) x.mro).getD false = false := by kernel_rfl
theorem uee_mro : mroOf (.type "UnicodeEncodeError") = pure [.type "UnicodeEncodeError", .type "UnicodeError", .type "ValueError", .type "Exception", .type "BaseException", .type "object"] := by rw [mroOf_type]; kernel_rfl
theorem uee_madeBy : Bind.madeBy (.type "UnicodeEncodeError") = pure (some "UnicodeEncodeError.__new__") := by kernel_rfl
theorem uee_ok (rest : List Value) : checkBuiltinCall "UnicodeEncodeError.__new__" ⟨.type "UnicodeEncodeError" :: rest, []⟩ = pure () := by kernel_rfl
theorem uee_vec (args : Args) : checkTypeCall "UnicodeEncodeError" args = pure () := by kernel_rfl
theorem uee_nt : (Value.type "UnicodeEncodeError" == Value.type "type") = false := by decide +kernel

section
variable {prog : Program} {w : World} {A : Around} {E : Value → Shared → Prop}

theorem call_uee {Q : Value → Shared → Prop} {hp : Heap} {g : Array GenState} {d : Drawn} {tk : Nat} {os : OsState} {a x r : Str} {i j : Int} {t1 t2 t3 t4 t5 : Tok}
    (hi : -(2^63) ≤ i ∧ i < 2^63) (hj : -(2^63) ≤ j ∧ j < 2^63)
    (k : ∀ h' e own, Mk hp h' e own → Q (.ref e) ⟨h', g, d, tk, os⟩) :
    wpAny (model prog w) A (call (.type "UnicodeEncodeError") [.str a t1, .str x t2, .int i t3, .int j t4, .str r t5]) Q E ⟨hp, g, d, tk, os⟩ := by
  refine wpAny_call (codeAny_of_tree ?_)
  show wpAny _ _ (again (.builtin "type.__call__" ⟨.type "UnicodeEncodeError" :: [.str a t1, .str x t2, .int i t3, .int j t4, .str r t5], []⟩)) _ _ _
  refine wpAny_pure ⟨Code.quiet_builtin _ (by decide +kernel), codeAny_builtin entry_typeCall ?_⟩
  have hnt := uee_nt
  have hcan := uee_can
  have hchk := uee_vec ⟨[.str a t1, .str x t2, .int i t3, .int j t4, .str r t5], []⟩
  have hmro := uee_mro
  have hmade := uee_madeBy
  wp_walk
  refine codeAny_call_builtin_code (Code.quiet_builtin _ (by decide +kernel)) (wpAny_of_eq (uee_ok _) ?_)
  refine codeAny_exc_new uee_new ?_
  show wpAny _ _ _ _ _ _
  have hget : ((hp.push { cls := .type "tuple", data := .seq [Value.str a t1, .str x t2, .int i t3, .int j t4, .str r t5].toArray }).push
      { cls := .type "UnicodeEncodeError", data := .fields #[.ref hp.objs.size, .none, .none, .none, .bool false, .none] }).get? (hp.objs.size + 1) = some
      { cls := .type "UnicodeEncodeError", data := .fields #[.ref hp.objs.size, .none, .none, .none, .bool false, .none] } := by heap_get
  have X : Mk hp ((hp.push { cls := .type "tuple", data := .seq [Value.str a t1, .str x t2, .int i t3, .int j t4, .str r t5].toArray }).push
      { cls := .type "UnicodeEncodeError", data := .fields #[.ref hp.objs.size, .none, .none, .none, .bool false, .none] }) (hp.objs.size + 1) [] :=
    ⟨fun b o hb => Heap.get?_push_of_some _ (Heap.get?_push_of_some _ hb), Heap.get?_none_of_le (Nat.le_succ _), _, _, _, hget, rfl, rfl⟩
  refine wpAny_bind (wpAny_isInstance ⟨_, hget, rfl⟩ uee_new.sub ?_)
  wp_step
  refine wpAny_bind (wpAny_holding (wpAny_callSpecial?_slot ⟨_, hget, rfl⟩ uee_init (wpAny_call_entry uee_init ⟨_, hget, rfl⟩ uee_initEntry (init_uee X hi hj fun h' own X' => ⟨_, rfl, ?_⟩) (uee_args _ _ _ _ _ _))))
  wp_walk
  exact k _ _ _ X'
end
end Mine
end

section
open PySem PySem.W PyProof.Rows PySem.Calls PySem.Spec
set_option maxRecDepth 100000
namespace Mine
open PySem.Builtin PySem.Builtin._codecs

theorem fault_eq (x : Str) (t : Tok) (i j : Nat) {α : Type} : (raiseEncodeFault {} "ascii" (.str x t) i j "ordinal not in range(128)" : Sem α) =
    (do raiseNew (← (do call (.type "UnicodeEncodeError") [← mkStr (Str.ofString "ascii"), (.str x t), ← mkInt i, ← mkInt j, ← mkStr (Str.ofString "ordinal not in range(128)")]))) := rfl

theorem Mk.exc {h0 h : Heap} {e : Addr} {own : List Value} (X : Mk h0 h e own) : ExcAt h0 h e "UnicodeEncodeError" .none none := by
  obtain ⟨_, hn, ob, v0, v5, he, hc, hd⟩ := X
  exact ⟨hn, ob, _, he, hc, hd, rfl, rfl⟩
section
variable {prog : Program} {w : World} {A : Around} {E : Value → Shared → Prop} {s : Shared} {x : Str} {t u : Tok} {Q : Value → Shared → Prop}

theorem noRefS : ∀ a, Value.str x t = .ref a → ∃ o, s.heap.get? a = some o ∧ o.dict = none := fun _ e => nomatch e
theorem getMethod_encode {M : Model} {pl : Sem Bool} {Q : Value × List Value → Shared → Prop} (h : Q (.builtin "str.encode", [.str x t]) s) : wpAny M A (getMethod (.str x t) (Str.ofString "encode") pl) Q E s := by
  with_reducible exact getMethod_builtin (typeIs_str _ _ _) F.plainAttrs_str F.slot_str_encode F.type_str_encode noRefS h

theorem encode_ok (hx : x.cps.size ≤ 1000) (h : ∀ c ∈ x.cps, c < 128) (k : ∀ tk, Q (.bytes (bytesOf x) tk) { s with toks := s.toks + 1 }) :
    wpAny (model prog w) A (call (.builtin "str.encode") [.str x t, .str (Str.ofString "ascii") u]) Q E s := by
  refine wpAny_call_entry F.slot_str_encode (typeIs_str _ _ _) F.entry_str_encode ?_ (F.args_str_encode_2 _ _)
  rw [encode_tree, narrow_ok x _ h hx]
  refine wpAny_bind (wpAny_bind (wpAny_pure ?_))
  have : (bytesOf x).size ≤ sizeLine := by
    have : (bytesOf x).size = x.cps.size := by simp [bytesOf]
    have : sizeLine = 2 ^ 24 := rfl
    omega
  exact wpAny_mkBytes (wpAny_pure ⟨_, rfl, k _⟩) this

theorem encode_bad (hh : A.handled = none) (hx : x.cps.size ≤ 1000) (h : ¬ ∀ c ∈ x.cps, c < 128)
    (k : ∀ e h' tk, (∀ b o, s.heap.get? b = some o → h'.get? b = some o) → ExcAt s.heap h' e "UnicodeEncodeError" .none none → E (.ref e) { s with heap := h', toks := tk }) :
    wpAny (model prog w) A (call (.builtin "str.encode") [.str x t, .str (Str.ofString "ascii") u]) Q E s := by
  refine wpAny_call_entry F.slot_str_encode (typeIs_str _ _ _) F.entry_str_encode ?_ (F.args_str_encode_2 _ _)
  obtain ⟨i, j, tag, hi, hj, K, e⟩ := narrow_bad x (.str x t) h hx
  rw [encode_tree, e, fault_eq]
  refine wpAny_bind (wpAny_bind (wpAny_bind (wpAny_rule (wpAny_bind (wpAny_bind ?_)))))
  refine wpAny_bind (wpAny_mkStr ?_ (by decide))
  refine wpAny_bind (wpAny_mkInt ?_)
  refine wpAny_bind (wpAny_mkInt ?_)
  refine wpAny_bind (wpAny_mkStr ?_ (by decide))
  refine call_uee (by omega) (by omega) fun h' e own X => ?_
  refine wpAny_raiseNew_none hh ?_
  exact k e h' _ X.keep X.exc
end
end Mine
end

section
open PySem PySem.W PyProof.Rows PySem.Calls PySem.Spec
set_option maxRecDepth 100000
namespace Mine

theorem entry_unchain : entryFor table "proto.unchain" = some Builtin.«proto.unchain» := entryFor_of_tree (by kernel_rfl)

section
variable {prog : Program} {w : World} {A : Around} {E : Value → Shared → Prop} {s : Shared} {env : Env} {e1 : Addr}

theorem unchain {Q : Value → Shared → Prop} {v : Value} {o1 : Obj} {vs1 : Array Value} (h1 : s.heap.get? e1 = some o1) (hd : o1.data = .fields vs1) (h2 : vs1[2]? = some .none) (k : Q .none s) :
    wpAny (model prog w) A (runValue (.builtin "proto.unchain" ⟨[v, .ref e1, .ref e1, .bool false], []⟩)) Q E s := by
  refine wpAny_runValue (codeAny_builtin entry_unchain ?_)
  unfold Builtin.«proto.unchain»
  dsimp only
  refine wpAny_bind (wpAny_field h1 hd h2 ?_)
  rw [if_pos (by decide)]
  exact wpAny_pure k

theorem raise_made {cls : String} (F : ExcRaiseFacts cls) {x : Sem Value} {Q : Flow → Shared → Prop} (hh : A.handled = some (.ref e1))
    (h : wpAny (model prog w) A x (fun v s₁ => ∃ e t, v = .ref e ∧ e ≠ e1 ∧ s₁.heap.get? e = some { cls := .type cls, data := .fields #[.ref t, .none, .none, .none, .bool false, .none] } ∧
      (∃ o1 vs1, s₁.heap.get? e1 = some o1 ∧ o1.data = .fields vs1 ∧ vs1[2]? = some .none) ∧ E (.ref e) { s₁ with heap := s₁.heap.update e (Obj.mapFields (·.setIfInBounds 2 (.ref e1))) }) E s) :
    wpAny (model prog w) A (raiseStmt env (some x) none) Q E s := by
  unfold raiseStmt
  refine wpAny_bind (wpAny_mono h (fun v s₁ h₁ => ?_) fun _ _ x => x)
  obtain ⟨e, t, rfl, hne, he, ⟨o1, vs1, g1, g2, g3⟩, hE⟩ := h₁
  obtain ⟨hp, g, d, tk, os⟩ := s₁
  have hsub := F.isExc
  have hmeta := F.plainMeta
  repeat (first | refine wpAny_loadPart he ?_ | ((with_reducible show wpAny _ _ (raiseNew _) _ _ _); fail) | wp_step)
  unfold raiseNew
  refine wpAny_bind (wpAny_handled ?_)
  rw [hh]
  have hb : (Value.ref e1 != Value.ref e) = true := by
    rw [bne_iff_ne]; intro q; injection q with q; exact hne q.symm
  dsimp only
  rw [if_pos hb]
  refine wpAny_bind (wpAny_holding (unchain g1 g2 g3 ?_))
  unfold updateField
  refine wpAny_bind (wpAny_bind (wpAny_load he ?_))
  dsimp only
  rw [if_pos (by simp)]
  exact wpAny_update he (wpAny_throw hE)

theorem Raise_made {cls : String} (F : ExcRaiseFacts cls) {x : Expr} {pos : Pos} {Q : Flow → Shared → Prop} (hh : A.handled = some (.ref e1))
    (h : wpAny (model prog w) A (eval x env) (fun v s₁ => ∃ e t, v = .ref e ∧ e ≠ e1 ∧ s₁.heap.get? e = some { cls := .type cls, data := .fields #[.ref t, .none, .none, .none, .bool false, .none] } ∧
      (∃ o1 vs1, s₁.heap.get? e1 = some o1 ∧ o1.data = .fields vs1 ∧ vs1[2]? = some .none) ∧ E (.ref e) { s₁ with heap := s₁.heap.update e (Obj.mapFields (·.setIfInBounds 2 (.ref e1))) }) E s) :
    wpAny (model prog w) A (exec (.Raise (some x) none pos) env) Q E s := by
  rw [arm_exec_Raise]
  show wpAny _ A (do standAt pos; raiseStmt env (some (do let v ← eval x env; standAt pos; pure v)) none) Q E s
  exact wpAny_bind (wpAny_standAt (raise_made F hh (wpAny_bind (wpAny_mono h (fun v s₁ h₁ => wpAny_bind (wpAny_standAt (wpAny_pure h₁))) fun _ _ x => x))))

/-- raise X("words") in a handler that holds e1 -/
theorem Raise_words {cls newId initId : String} (F : ExcCallFacts cls newId initId) (G : ExcRaiseFacts cls) {x : Str} {np cpos pos p2 : Pos} {k : Nat} {words : Str} {Q : Flow → Shared → Prop} {h0 : Heap} {fs : List Addr} {X1 : String} {fl : Option Value}
    (hh : A.handled = some (.ref e1)) (K : Kp fs h0 s.heap) (X : ExcAt h0 s.heap e1 X1 .none fl) (hw : words.length ≤ 1000)
    (hn : ∀ (Q : Value → Shared → Prop), Q (.type cls) s → wpAny (model prog w) A (eval (.Name x np) env) Q E s)
    (h : ∀ e h' tk, Kp fs h0 h' → ExcAt h0 h' e cls (.ref e1) none → E (.ref e) { s with heap := h', toks := tk }) :
    wpAny (model prog w) A (exec (.Raise (some (.Call (.Name x np) [.Constant (.str words) k p2] [] cpos)) none pos) env) Q E s := by
  refine Raise_made G hh (wpAny_Call_ofName (hn _ ?_))
  refine callWith_excType (by rfl) ?_
  refine evalArgs_plain (spliced_cons (wpAny_Constant_str (k := k) (pos := p2) (spliced_nil ?_)))
  show wpAny _ A (call (.type cls) [.str words s.toks]) _ E { s with toks := s.toks + 1 }
  refine wpAny_call_exc F (fun h' e hm => ?_) (by show 1 ≤ sizeLine; decide)
  obtain ⟨t, ht, hnt, htt⟩ := hm.there
  have X' : ExcAt h0 h' e1 X1 .none fl := X.keeps hm.keeps
  have hne : e ≠ e1 := fun q => by
    obtain ⟨_, ob, vs, he, _⟩ := X
    have := hm.new
    rw [q, he] at this; cases this
  have hn0 : h0.get? e = none := K.none hm.new
  obtain ⟨_, o1, vs1, g1, g2, g3, g4, _⟩ := X'
  refine ⟨e, t, rfl, hne, ht, ⟨o1, vs1, g1, g3, g4⟩, h e _ _ ((K.keeps hm.keeps).upd hn0 _) ⟨hn0, _, _, Heap.get?_update_self _ ht (Obj.isFreed_of_fields rfl), rfl, rfl, rfl, rfl⟩⟩
end
end Mine
end

section
open PySem PySem.W PyProof.Rows PySem.Calls PySem.Spec
set_option maxRecDepth 100000
namespace Mine
open TI

/-- the way back from a call: the callee's frame L' goes, the caller's L stands again -/
def Back (hb : Heap) (L : Addr) (m : Str → Option Value) (l : List Env) (frs : List (Addr × Obj)) (oL : Obj) (L' : Addr) (P : Shared → Prop) (s' : Shared) : Prop :=
  ∃ m' new' frs2, Fr hb L' s'.heap m' ∧ News hb L' s'.heap (new' ++ frs2) ∧ SameUp ((L, oL) :: frs) frs2 ∧ new'.all notDict = true ∧
    (∀ frs', Frs l frs' → SameUp frs frs' → Fr hb L s'.heap m → News hb L s'.heap (new' ++ frs') → P s')

theorem Back.out {hb : Heap} {L : Addr} {m : Str → Option Value} {l : List Env} {frs : List (Addr × Obj)} {oL : Obj} {L' : Addr} {P : Shared → Prop} {s' : Shared}
    (C : Caller hb L m oL) (Fs : Frs l frs) (hne : ∀ p ∈ frs, p.1 ≠ L) (B : Back hb L m l frs oL L' P s') : P s' := by
  obtain ⟨m', new', frs2, F', N', SU, hnd, k⟩ := B
  cases frs2 with
  | nil => exact False.elim SU
  | cons q qs =>
    obtain ⟨h1, ⟨sl, h2⟩, h3⟩ := SU
    obtain ⟨q1, q2⟩ := q
    simp only at h1 h2
    subst h1 h2
    have hL := (N' _ (List.mem_append_right _ List.mem_cons_self)).1
    refine k qs (Fs.up h3) h3 ⟨C.ns _ sl hL, F'.keep, C.above⟩ fun p hp => ?_
    rcases List.mem_append.mp hp with hp | hp
    · obtain ⟨x1, x2, x3⟩ := N' p (List.mem_append_left _ hp)
      refine ⟨x1, fun e => ?_, x3⟩
      obtain ⟨es, ep, hd⟩ := C.dict
      rw [e, hL] at x1
      have x1' := Option.some.inj x1
      exact notDict_ne (List.all_eq_true.mp hnd p hp) (show p.2.data = .dict es ep by rw [← x1']; exact hd)
    · obtain ⟨x1, x2, x3⟩ := N' p (List.mem_append_right _ (List.mem_cons_of_mem _ hp))
      obtain ⟨x, hx, e⟩ := h3.fwd p hp
      exact ⟨x1, by rw [e]; exact hne x hx, x3⟩

theorem enter {prog : Program} {w : World} {A : Around} {s : Shared} {hb : Heap} {L : Addr} {m : Str → Option Value} {env : Env} {l : List Env} {new frs : List (Addr × Obj)} {K : Frag} {p : Program} {loose : List Str} {mean : ExcName → Option Value} {mg mb : Str → Option Value}
    {R : Result → Shared → Prop} {name qual : Str} {params : Arguments} {body : List Stmt} {scope : Scope} {dV kV doc pm cdv ct oc : Value} {an od : Option Addr} {osl : Array (Option Value)} {f : Addr} {args : Args} {binds : List (Str × Value)}
    (F : Fr hb L s.heap m) (X₀ : K.In hb) (N : News hb L s.heap (new ++ frs)) (Fs : Frs l frs) (T : Top p loose mean mg mb hb) (_hA : A.frames = some (env :: l)) (hf : env.frame = some L) (hke : env.scope.kind = .function)
    (ho : K.lookup f = some ⟨oc, od, .func (fnOf name qual params body scope dV kV doc pm an cdv ct), osl⟩) (hcd : codeIn K cdv qual = true) (hroom : A.depth < recursionLimit)
    (hbind : BindsTo s (fnOf name qual params body scope dV kV doc pm an cdv ct) args binds) (hloc : ∀ y ∈ binds, scope.names.lookup y.1 = some .local)
    (h : ∀ oL L' h₁, Caller hb L m oL → Frs (env :: l) ((L, oL) :: frs) → (∀ p ∈ new ++ (L, oL) :: frs, p.1 < L') → Fr hb L' h₁ (fun y => binds.reverse.lookup y) → News hb L' h₁ (new ++ (L, oL) :: frs) →
      wpAny (model prog w) (A.deeper (envOf qual scope L' f cdv)) (execs body (envOf qual scope L' f cdv))
        (fun fl s' => Back hb L m l frs oL L' (R (.ok (.ret (match fl with | .ret v => v | _ => .none)))) s')
        (fun e s' => wpAny (model prog w) (A.deeper (envOf qual scope L' f cdv)) (leaving (envOf qual scope L' f cdv) e) (fun _ s'' => R (.error e) s'') (fun e' s'' => R (.error e') s'') s')
        { s with heap := h₁, toks := s.toks + binds.length })
    (hco : scope.isCoroutine = false) (hgen : scope.isGenerator = false) (hk : scope.kind = .function)
    (hcell : ∀ x ∈ scope.names, x.2 ≠ .cell) : codeAny (model prog w) A (.call (.ref f) args) R s := by
  have X := X₀.keeps F.keep
  obtain ⟨oL, es, ep, hL, hLd, hLk, hLf⟩ := F.ns
  have hLt := Heap.lt_size hL
  have hkind : env.scope.kind ≠ .module := by rw [hke]; decide
  have C : Caller hb L m oL := ⟨fun h' sl e => ⟨_, es, ep, e, hLd, hLk, hLf⟩, ⟨es, ep, hLd⟩, F.above⟩
  refine codeAny_call_def (fd := fnOf name qual params body scope dV kV doc pm an cdv ct) (body := body) (binds := binds) hroom (X _ _ ho) rfl (T.nolimit.keeps F.keep) (codeRec_of X hcd) rfl hbind hcell hloc (fun h₁ hns hk₁ => ?_) hco hgen hk
  have up : ∀ b o, s.heap.get? b = some o → h₁.get? b = some o := fun b o e => hk₁ b o e
  have all : ∀ p ∈ new ++ (L, oL) :: frs, s.heap.get? p.1 = some p.2 ∧ hb.get? p.1 = none := fun p hp => by
    rcases List.mem_append.mp hp with hp | hp
    · obtain ⟨h1, h2, h3⟩ := N p (List.mem_append_left _ hp)
      exact ⟨h1, h3⟩
    · rcases List.mem_cons.mp hp with rfl | hp
      · exact ⟨hL, Heap.get?_none_of_le F.above⟩
      · obtain ⟨h1, h2, h3⟩ := N p (List.mem_append_right _ hp)
        exact ⟨h1, h3⟩
  refine wpAny_mono (h oL s.heap.objs.size h₁ C ⟨hkind, hf, ⟨es, ep, hLd⟩, Fs⟩ (fun p hp => Heap.lt_size (all p hp).1)
    ⟨hns, fun b o e => up b o (F.keep b o e), Nat.le_trans F.above (Nat.le_of_lt hLt)⟩ (fun p hp => ⟨up _ _ (all p hp).1, Nat.ne_of_lt (Heap.lt_size (all p hp).1), (all p hp).2⟩)) (fun fl s' B => ?_) fun _ _ x => x
  exact B.out C Fs fun p hp => (N p (List.mem_append_right _ hp)).2.1

theorem frames_now {hb h : Heap} {L : Addr} {m : Str → Option Value} {l : List Env} {new frs : List (Addr × Obj)} {env : Env} (F : Fr hb L h m) (N : News hb L h (new ++ frs)) (Fs : Frs l frs) (hf : env.frame = some L) (hk : env.scope.kind = .function) :
    h.FunFrames hb (env :: l) :=
  Heap.FunFrames.cons (by rw [hk]; decide) hf F.ns (Heap.get?_none_of_le F.above) (Fs.fun fun p hp => ⟨(N p (tail_sub p hp)).1, (N p (tail_sub p hp)).2.2⟩)

/-- what a frame knows after objects of frames have got slots, and new ones came -/
theorem settle {fs : List Addr} {hb h h' : Heap} {L : Addr} {m : Str → Option Value} {l : List Env} {new frs : List (Addr × Obj)} (K : Kp fs h h') (hfs : ∀ b ∈ fs, hb.get? b = none ∧ ∃ o es n, h.get? b = some o ∧ o.data = .dict es n)
    (F : Fr hb L h m) (N : News hb L h (new ++ frs)) (Fs : Frs l frs) (hnd : new.all notDict = true) :
    Fr hb L h' m ∧ ∃ frs', SameUp frs frs' ∧ Frs l frs' ∧ News hb L h' (new ++ frs') := by
  obtain ⟨frs', SU, ht⟩ := sameUp_of (h' := h') (frs := frs) fun p hp => K.some (N p (tail_sub p hp)).1
  obtain ⟨oL, es, ep, hL, r⟩ := F.ns
  obtain ⟨sl, hsl⟩ := K.some hL
  refine ⟨⟨⟨_, es, ep, hsl, r⟩, fun b o e => K.same b o (F.keep b o e) fun hm => (by rw [(hfs b hm).1] at e; cases e), F.above⟩, frs', SU, Fs.up SU, fun p hp => ?_⟩
  rcases List.mem_append.mp hp with hp | hp
  · obtain ⟨x1, x2, x3⟩ := N p (List.mem_append_left _ hp)
    refine ⟨K.same _ _ x1 fun hm => ?_, x2, x3⟩
    obtain ⟨_, o, es', n', ho, hd⟩ := hfs p.1 hm
    rw [x1] at ho
    have := Option.some.inj ho
    exact notDict_ne (List.all_eq_true.mp hnd p hp) (this ▸ hd)
  · obtain ⟨x, hx, e⟩ := SU.fwd p hp
    obtain ⟨_, x2, x3⟩ := N x (tail_sub x hx)
    exact ⟨ht p hp, by rw [e]; exact x2, by rw [e]; exact x3⟩

theorem isExc_uee : isSubtype (.type "UnicodeEncodeError") (.type "BaseException") = pure true := by rw [isSubtype_type]; kernel_rfl
theorem notTup_uee : isSubtype (.type ((Manifest.find? "UnicodeEncodeError").elim "type" fun y => y.metatype)) (.type "tuple") = pure false := by rw [isSubtype_type]; kernel_rfl
theorem sub_uee : isSubtype (.type "UnicodeEncodeError") (.type "UnicodeEncodeError") = pure true := by rw [isSubtype_type]; kernel_rfl
theorem sub_val : isSubtype (.type "ValueError") (.type "ValueError") = pure true := by rw [isSubtype_type]; kernel_rfl

theorem caught {prog : Program} {w : World} {A : Around} {E : Value → Shared → Prop} {s : Shared} {env : Env} {fs : List Addr} {h0 : Heap} {e : Addr} {X T : String} {c y : Value} {t : Expr} {b₀ : Stmt} {suite : List Stmt} {pos : Pos} {rest : List ExceptHandler} {Q : Flow → Shared → Prop}
    (K : Kp fs h0 s.heap) (x : ExcAt h0 s.heap e X c (some y))
    (hexc : isSubtype (.type T) (.type "BaseException") = pure true) (hnt : isSubtype (.type ((Manifest.find? T).elim "type" fun x => x.metatype)) (.type "tuple") = pure false) (hsub : isSubtype (.type X) (.type T) = pure true)
    (hn : ∀ (A : Around) (E Q : Value → Shared → Prop), Q (.type T) s → wpAny (model prog w) A (eval t env) Q E s)
    (k : ∀ h', Kp fs h0 h' → ExcAt h0 h' e X c (some .none) → wpAny (model prog w) (A.mark (some (.ref e))) (execs (b₀ :: suite) env) Q (notedBy (model prog w) (A.mark (some (.ref e))) env (cameBackBy (model prog w) A env E)) { s with heap := h' }) :
    wpAny (model prog w) A (handleBy (.ref e) env (.ExceptHandler (some t) none (b₀ :: suite) pos :: rest)) Q E s := by
  refine wpAny_handleBy_builtin (X := X) (T := T) (b := true) hexc hnt hsub (hn _ _ _ ⟨rfl, x.isA, ?_⟩)
  rw [if_pos rfl]
  exact flight K x fun h' K' x' => k h' K' x'
end Mine
end

section
open PySem PySem.W PyProof.Rows PySem.Calls PySem.Spec
set_option maxRecDepth 100000
namespace Mine
open TI

abbrev topA (dp un : Nat) (gd : Option (List Code)) (env : Env) (l : List Env) : Around := { handled := none, depth := dp, frames := some (env :: l), guards := gd, units := un }
def Told (x : Str) (v : Value) : Prop := (∀ c ∈ x.cps, c < 128) ∧ (∃ u, v = .bytes (bytesOf x) u) ∨ (¬ ∀ c ∈ x.cps, c < 128) ∧ v = .none

local macro_rules | `(tactic| walk_at "km enter") => `(tactic| (refine' enter ?k1 ?k2 ?k3 ?k4 ?k5 ?kA ?kF ?kK ?k6 ?k7 ?k8 ?k9 ?kB ?_ ?c2 ?c3 ?c4 ?c5; (case kA => exact rfl); (case k1 => assumption); (case k2 => assumption); (case k3 => assumption); (case k4 => assumption); (case k5 => assumption); (case kF => first | exact rfl | assumption); (case kK => first | exact rfl | assumption); (case k6 => k_dflt k_is); (case k7 => k_dflt k_is); (case k8 => ktr_room); (case k9 => exact BindsTo.of_eq rfl); (case kB => exact locs rfl); (case c2 => exact rfl); (case c3 => exact rfl); (case c4 => exact rfl); (case c5 => decide)))

theorem frame_sub {env0 : Env} {l : List Env} {frs : List (Addr × Obj)} {L0 : Addr} (hf : env0.frame = some L0) (Fs : Frs l frs) : ∀ b ∈ (env0 :: l).filterMap (·.frame), b ∈ L0 :: frs.map (·.1) := fun b h => by
  rw [List.filterMap_cons, hf, Fs.addrs] at h
  exact h
theorem boot_uee : bootBuiltins (Str.ofString "UnicodeEncodeError") = some (.type "UnicodeEncodeError") := by first | kernel_rfl | decide +kernel
theorem boot_val : bootBuiltins (Str.ofString "ValueError") = some (.type "ValueError") := by first | kernel_rfl | decide +kernel
set_option maxHeartbeats 8000000 in
theorem told {w : World} {mean : ExcName → Option Value} {mg mb : Str → Option Value} (dp un : Nat) (gd : Option (List Code)) (env : Env) (l : List Env) (hb : Heap) (L : Addr) (m : Str → Option Value) (new frs : List (Addr × Obj)) (s : Shared) (x : Str) (t : Tok)
    (Q E : Value → Shared → Prop)
  (X : (hd.heap_39 w.params).In hb) (F : Fr hb L s.heap m) (N : News hb L s.heap (new ++ frs)) (Fs : Frs l frs) (T : Top hd.view_39 (looseW hd.view_39 [Str.ofString "bytes_types"]) mean mg mb hb) (hf : env.frame = some L) (hk : env.scope.kind = .function)
  (hnd : new.all notDict = true) (hx : x.cps.size ≤ 1000) (hroom : dp + 10 < recursionLimit)
  (ret : ∀ v h' tk frs', Told x v → Frs l frs' → SameUp frs frs' → Fr hb L h' m → News hb L h' (new ++ frs') → Q v { s with heap := h', toks := tk }) :
  wpAny (model Challenge.rw_km0001_01.row.prog w) (topA dp un gd env l) (call (.ref 29) [.str x t]) Q E s := by
  revert X
  k_fill
  intro X
  refine wpAny_call ?_
  walk_at "km enter"
  intro oL L1 h1 C1 Fs1 hlt1 F1 N1
  k_fold
  k_steps
  refine wpAny_call ?_
  walk_at "km enter"
  intro oL2 L2 h2 C2 Fs2 hlt2 F2 N2
  k_fold
  k_steps
  refine getMethod_encode ?_
  k_steps
  by_cases hasc : ∀ c ∈ x.cps, c < 128
  · refine encode_ok hx hasc fun u => ?_
    k_steps
    refine ⟨_, _, _, F2, N2, SameUp.refl _, hnd, fun frs3 Fs3 SU3 F3 N3 => ?_⟩
    k_steps
    refine ⟨_, _, _, F3, N3, SU3, hnd, fun frs4 Fs4 SU4 F4 N4 => ?_⟩
    exact ret _ _ _ _ (.inl ⟨hasc, _, rfl⟩) Fs4 SU4 F4 N4
  · refine encode_bad rfl hx hasc fun e1 h3 tk3 K3 X3 => ?_
    have K3' : Kp (L2 :: ((L1, oL2) :: (L, oL) :: frs).map (·.1)) h2 h3 := (Kp.refl _ _).keeps K3
    have hfd : ∀ b ∈ L2 :: ((L1, oL2) :: (L, oL) :: frs).map (·.1), hb.get? b = none ∧ ∃ o es n, h2.get? b = some o ∧ o.data = .dict es n := fun b h => by
      rcases List.mem_cons.mp h with rfl | h
      · obtain ⟨o, es, n, ho, hd, _⟩ := F2.ns
        exact ⟨Heap.get?_none_of_le F2.above, o, es, n, ho, hd⟩
      · obtain ⟨p, hp, rfl⟩ := List.mem_map.mp h
        obtain ⟨es, n, hd⟩ := Fs2.dict p hp
        obtain ⟨x1, _, x3⟩ := N2 p (tail_sub p hp)
        exact ⟨x3, p.2, es, n, x1, hd⟩
    refine note (h0 := h2) rfl rfl (frames_now F2 N2 Fs2 rfl rfl) (frame_sub rfl Fs2) K3' X3 (by simp) fun h4 K4 X4 => ?_
    refine flight K4 X4 fun h5 K5 X5 => ?_
    obtain ⟨F5, frs5, SU5, Fs5, N5⟩ := settle K5 hfd F2 N2 Fs2 hnd
    refine caught K5 X5 isExc_uee notTup_uee sub_uee (fun A' E' Q' q => ?_) fun h6 K6 X6 => ?_
    · refine name_B F5 X (topRead_of T) ?e boot_uee (by decide) q
      case e => k_dflt k_is
    refine wpAny_passesOwnAt PassesOwnAt.leaving ?_
    obtain ⟨F6, frs6, SU6, Fs6, N6⟩ := settle K6 hfd F2 N2 Fs2 hnd
    refine wpAny_execs_cons ?_
    refine Raise_words PySem.F.excCall_ValueError PySem.F.excRaise_ValueError rfl K6 X6 (by decide) (fun Q' q => ?_) fun e2 h7 tk7 K7 X7 => ?_
    · refine name_B F6 X (topRead_of T) ?e boot_val (by decide) q
      case e => k_dflt k_is
    k_unfold
    unfold leaving
    refine wpAny_bind (note rfl rfl (frames_now F2 N2 Fs2 rfl rfl) (frame_sub rfl Fs2) K7 X7 (by simp) fun h8 K8 X8 => ?_)
    refine flight K8 X8 fun h9 K9 X9 => ?_
    have hL1 := (N2 (L1, oL2) (List.mem_append_right _ List.mem_cons_self)).1
    have F1' := Fr.mk (C2.ns h2 oL2.slots hL1) F2.keep C2.above
    have N1' : News hb L1 h2 (new ++ (L, oL) :: frs) := fun p hp => by
      have hm : p ∈ new ++ (L1, oL2) :: (L, oL) :: frs := by
        rcases List.mem_append.mp hp with hp | hp
        · exact List.mem_append_left _ hp
        · exact List.mem_append_right _ (List.mem_cons_of_mem _ hp)
      exact ⟨(N2 p hm).1, Nat.ne_of_lt (hlt1 p hp), (N2 p hm).2.2⟩
    refine note rfl rfl (frames_now F1' N1' Fs1 rfl rfl) (fun b h => List.mem_cons_of_mem _ (frame_sub rfl Fs1 b h)) K9 X9 (by simp [rawInt]) fun h10 K10 X10 => ?_
    refine flight K10 X10 fun h11 K11 X11 => ?_
    obtain ⟨F11, frs11, SU11, Fs11, N11⟩ := settle K11 hfd F1' N1' Fs1 hnd
    refine caught K11 X11 PySem.F.isExc_ValueError PySem.F.notTuple_ValueError sub_val (fun A' E' Q' q => ?_) fun h12 K12 X12 => ?_
    · refine name_B F11 X (topRead_of T) ?e boot_val (by decide) q
      case e => k_dflt k_is
    refine wpAny_passesOwnAt PassesOwnAt.leaving ?_
    obtain ⟨F12, frs12, SU12, Fs12, N12⟩ := settle K12 hfd F1' N1' Fs1 hnd
    k_fold
    k_steps
    refine ⟨_, _, _, F12, N12, SU12, hnd, fun frs13 Fs13 SU13 F13 N13 => ?_⟩
    exact ret _ _ _ _ (.inr ⟨hasc, rfl⟩) Fs13 SU13 F13 N13
end Mine
end

section
open PySem PySem.W PyProof.Rows PySem.Calls PySem.Spec
set_option maxRecDepth 100000
namespace Mine
open TI
local macro_rules | `(tactic| walk_at "km enter") => `(tactic| (refine' enter ?k1 ?k2 ?k3 ?k4 ?k5 ?kA ?kF ?kK ?k6 ?k7 ?k8 ?k9 ?kB ?_ ?c2 ?c3 ?c4 ?c5; (case kA => exact rfl); (case k1 => assumption); (case k2 => assumption); (case k3 => assumption); (case k4 => assumption); (case k5 => assumption); (case kF => first | exact rfl | assumption); (case kK => first | exact rfl | assumption); (case k6 => k_dflt k_is); (case k7 => k_dflt k_is); (case k8 => ktr_room); (case k9 => exact BindsTo.of_eq rfl); (case kB => exact locs rfl); (case c2 => exact rfl); (case c3 => exact rfl); (case c4 => exact rfl); (case c5 => decide)))

def spell (c : Nat) : Str := Str.ofString "&#" ++ Str.ofString (toString (c : Int)) ++ Str.ofString ";"

set_option maxHeartbeats 8000000 in
theorem spelled {w : World} {mean : ExcName → Option Value} {mg mb : Str → Option Value} (dp un : Nat) (gd : Option (List Code)) (env : Env) (l : List Env) (hb : Heap) (L : Addr) (m : Str → Option Value) (new frs : List (Addr × Obj)) (s : Shared) (c : Nat) (t : Tok)
    (Q E : Value → Shared → Prop)
  (X : (hd.heap_39 w.params).In hb) (F : Fr hb L s.heap m) (N : News hb L s.heap (new ++ frs)) (Fs : Frs l frs) (T : Top hd.view_39 (looseW hd.view_39 [Str.ofString "bytes_types"]) mean mg mb hb) (hf : env.frame = some L) (hk : env.scope.kind = .function)
  (hnd : new.all notDict = true) (hc : c < 100000) (hroom : dp + 10 < recursionLimit)
  (ret : ∀ u h' tk frs', Frs l frs' → SameUp frs frs' → Fr hb L h' m → News hb L h' (new ++ frs') → Q (.str (spell c) u) { s with heap := h', toks := tk }) :
  wpAny (model Challenge.rw_km0001_01.row.prog w) (topA dp un gd env l) (call (.ref 36) [.str ⟨#[c]⟩ t]) Q E s := by
  revert X
  k_fill
  intro X
  refine wpAny_call ?_
  walk_at "km enter"
  intro oL L1 h1 C1 Fs1 hlt1 F1 N1
  k_fold
  k_steps
  exact ⟨_, _, _, F1, N1, SameUp.refl _, hnd, fun frs' Fs' SU' F' N' => ret _ _ _ _ Fs' SU' F' N'⟩
end Mine
end

section
open PySem PySem.W PyProof.Rows PySem.Calls PySem.Spec
namespace Mine
theorem digits_ascii (c : Nat) : ∀ k ∈ (Str.ofString (toString (c : Int))).cps, k < 128 := by
  intro k hk
  rw [Str.ofString_eq_toList] at hk
  have e : toString (c : Int) = toString c := rfl
  rw [e] at hk
  have e2 : (toString c).toList = Nat.toDigits 10 c := by
    show (Nat.repr c).toList = _
    unfold Nat.repr
    simp
  rw [e2] at hk
  simp only [List.mem_toArray, List.mem_map] at hk
  obtain ⟨ch, hch, rfl⟩ := hk
  have := Nat.isDigit_of_mem_toDigits (by decide) (by decide) hch
  rw [Char.isDigit] at this
  simp only [Bool.and_eq_true, decide_eq_true_eq] at this
  have h2 := this.2
  have : ch.val.toNat ≤ 57 := h2
  show ch.val.toNat < 128
  omega
theorem spell_ascii (c : Nat) : ∀ k ∈ (spell c).cps, k < 128 := by
  intro k hk
  unfold spell at hk
  rw [Str.cps_append, Str.cps_append] at hk
  rcases Array.mem_append.mp hk with hk | hk
  · rcases Array.mem_append.mp hk with hk | hk
    · exact (show ∀ k ∈ (Str.ofString "&#").cps, k < 128 by decide +kernel) k hk
    · exact digits_ascii c k hk
  · exact (show ∀ k ∈ (Str.ofString ";").cps, k < 128 by decide +kernel) k hk
theorem spell_size (c : Nat) (hc : c < 100000) : (spell c).cps.size ≤ 9 := by
  unfold spell
  rw [Str.cps_append, Str.cps_append, Array.size_append, Array.size_append]
  have h1 : (Str.ofString "&#").cps.size = 2 := by decide +kernel
  have h2 : (Str.ofString ";").cps.size = 1 := by decide +kernel
  have h3 : (Str.ofString (toString (c : Int))).length ≤ 6 := by
    have := int_text_length_le10 (a := (c : Int)) (k := 5) (by decide) (by simpa using hc)
    rw [PySem.ofString_length]; exact this
  have h3' : (Str.ofString (toString (c : Int))).cps.size ≤ 6 := h3
  omega
/-- the part of x from a to b -/
def cut (x : Str) (a b : Nat) : Str := ⟨x.cps.extract a b⟩
theorem slice_cut {x : Str} {a b : Nat} (hab : a < b) (hb : b ≤ x.cps.size) : Txt.slice x (some (a : Int)) (some (b : Int)) = cut x a b := by
  have h := slice_closes (x := x) (i := a) (j := b) (by simp; omega)
  rw [beq_iff_eq] at h
  rw [h]
  unfold cut
  congr 1
  apply Array.ext'
  simp
theorem item_at {x : Str} {a : Nat} (ha : a < x.cps.size) : Txt.item x (a : Int) = ⟨#[x.cps.getD a 0]⟩ := by
  unfold Txt.item Txt.charAt
  have : seqIndex? (a : Int) x.length = some a := by
    unfold seqIndex?
    have h2 : x.length = x.cps.size := rfl
    simp
    omega
  rw [this]
  simp [ha]
end Mine
end

section
open PySem PySem.W PyProof.Rows PySem.Calls PySem.Spec
set_option maxRecDepth 100000
namespace Mine
open TI
local macro_rules | `(tactic| walk_at "km enter") => `(tactic| (refine' enter ?k1 ?k2 ?k3 ?k4 ?k5 ?kA ?kF ?kK ?k6 ?k7 ?k8 ?k9 ?kB ?_ ?c2 ?c3 ?c4 ?c5; (case kA => exact rfl); (case k1 => assumption); (case k2 => assumption); (case k3 => assumption); (case k4 => assumption); (case k5 => assumption); (case kF => first | exact rfl | assumption); (case kK => first | exact rfl | assumption); (case k6 => k_dflt k_is); (case k7 => k_dflt k_is); (case k8 => ktr_room); (case k9 => exact BindsTo.of_eq rfl); (case kB => exact locs rfl); (case c2 => exact rfl); (case c3 => exact rfl); (case c4 => exact rfl); (case c5 => decide)))

inductive BytesAre : List Value → List (Array UInt8) → Prop
  | nil : BytesAre [] []
  | cons (b : Array UInt8) (t : Tok) {vs bs} : BytesAre vs bs → BytesAre (.bytes b t :: vs) (b :: bs)

theorem ints_snoc {vs : List Value} {ns : List Int} (h : IntsAre vs ns) (n : Int) (t : Tok) : IntsAre (vs ++ [.int n t]) (ns ++ [n]) := by
  induction h with
  | nil => exact .cons _ _ .nil
  | cons n t _ ih => exact .cons _ _ ih

def asc (x : Str) (a b : Nat) : Prop := ∀ c ∈ (cut x a b).cps, c < 128
open Classical in
noncomputable def partsOf (x : Str) : Nat → Nat → Nat → List (Array UInt8)
  | 0, _, _ => []
  | n + 1, a, b => if asc x a b then [bytesOf (cut x a b)] else if b - a = 1 then [bytesOf (spell (x.cps.getD a 0))] else partsOf x n a ((a + b) / 2) ++ partsOf x n ((a + b) / 2) b
open Classical in
noncomputable def refsOf (x : Str) : Nat → Nat → Nat → List Int
  | 0, _, _ => []
  | n + 1, a, b => if asc x a b then [] else (100 * (a : Int) + b) :: (if b - a = 1 then [] else refsOf x n a ((a + b) / 2) ++ refsOf x n ((a + b) / 2) b)

theorem apart {hb h : Heap} {L : Addr} {l : List Env} {new frs : List (Addr × Obj)} {r : Addr} {o : Obj} (Fs : Frs l frs) (N : News hb L h (new ++ frs)) (hm : (r, o) ∈ new) (hnd : notDict (r, o) = true) : ∀ p ∈ frs, p.1 ≠ r := fun p hp e => by
  obtain ⟨es, ep, hd⟩ := Fs.dict p hp
  have h1 := (N p (List.mem_append_right _ hp)).1
  have h2 := (N (r, o) (List.mem_append_left _ hm)).1
  rw [e, h2] at h1
  have h3 : o = p.2 := Option.some.inj h1
  exact notDict_ne hnd (es := es) (ep := ep) (h3 ▸ hd)

theorem refs_len (x : Str) : ∀ n a b, a < b → (refsOf x n a b).length + 1 ≤ 2 * (b - a)
  | 0, a, b, h => by simp [refsOf]; omega
  | n + 1, a, b, h => by
    unfold refsOf
    split
    · simp; omega
    · simp only [List.length_cons]
      split
      · simp; omega
      · have h1 := refs_len x n a ((a + b) / 2) (by omega)
        have h2 := refs_len x n ((a + b) / 2) b (by omega)
        simp only [List.length_append]
        omega

theorem parts_len (x : Str) : ∀ n a b, a < b → (partsOf x n a b).length ≤ b - a
  | 0, a, b, h => by simp [partsOf]
  | n + 1, a, b, h => by
    unfold partsOf
    split
    · simp; omega
    · split
      · simp; omega
      · have h1 := parts_len x n a ((a + b) / 2) (by omega)
        have h2 := parts_len x n ((a + b) / 2) b (by omega)
        simp only [List.length_append]
        omega
theorem BytesAre.length {vs : List Value} {bs : List (Array UInt8)} (h : BytesAre vs bs) : vs.length = bs.length := by
  induction h with
  | nil => rfl
  | cons _ _ _ ih => simp [ih]
theorem BytesAre.append {vs ws : List Value} {bs cs : List (Array UInt8)} (h : BytesAre vs bs) (k : BytesAre ws cs) : BytesAre (vs ++ ws) (bs ++ cs) := by
  induction h with
  | nil => exact k
  | cons b t _ ih => exact .cons b t ih

def Halves (w : World) (mean : ExcName → Option Value) (mg mb : Str → Option Value) (x : Str) (n : Nat) : Prop :=
  ∀ (dp un : Nat) (gd : Option (List Code)) (env : Env) (l : List Env) (hb : Heap) (L : Addr) (m : Str → Option Value) (r : Addr) (items : List Value) (ns : List Int) (cap : Nat) (rest frs : List (Addr × Obj)) (s : Shared) (a b : Nat) (t ta tb : Tok) (Q E : Value → Shared → Prop),
  (hd.heap_39 w.params).In hb → Fr hb L s.heap m → News hb L s.heap (((r, listOf items.toArray cap) :: rest) ++ frs) → Frs l frs → Top hd.view_39 (looseW hd.view_39 [Str.ofString "bytes_types"]) mean mg mb hb → env.frame = some L → env.scope.kind = .function →
  rest.all notDict = true → (∀ p ∈ rest, p.1 ≠ r) → IntsAre items ns → a < b → b ≤ x.cps.size → b - a ≤ n → items.length + 200 * n ≤ 100000 → dp + 2 * n + 20 < recursionLimit →
  (∀ D h' tk vs capD items' cap' frs', BytesAre vs (partsOf x n a b) → IntsAre items' (ns ++ refsOf x n a b) → D ≠ r → Frs l frs' → SameUp frs frs' → Fr hb L h' m →
    News hb L h' (((r, listOf items'.toArray cap') :: (D, listOf vs.toArray capD) :: rest) ++ frs') → Q (.ref D) { s with heap := h', toks := tk }) →
  wpAny (model Challenge.rw_km0001_01.row.prog w) (topA dp un gd env l) (call (.ref 43) [.str x t, .int a ta, .int b tb, .ref r]) Q E s

set_option maxHeartbeats 8000000 in
theorem halves_step {w : World} {mean : ExcName → Option Value} {mg mb : Str → Option Value} {x : Str} (hx : x.cps.size ≤ 90) (hcp : ∀ c ∈ x.cps, c < 100000) (n : Nat) (IH : Halves w mean mg mb x n) : Halves w mean mg mb x (n + 1) := by
  intro dp un gd env l hb L m r items ns cap rest frs s a b t ta tb Q E X F N Fs T hf hk hnd hr hI hab hbx hn hlen hroom ret
  revert X
  k_fill
  intro X
  refine wpAny_call ?_
  walk_at "km enter"
  intro oL L1 h1 C1 Fs1 hlt1 F1 N1
  k_fold
  k_steps
  rename Fr _ _ _ _ => F2
  rename News _ _ _ _ => N2
  have hnd1 : ((r, listOf items.toArray cap) :: rest).all notDict = true := by simp only [List.all_cons, hnd, Bool.and_true]; rfl
  have hcut : Txt.slice x (some (a : Int)) (some (b : Int)) = cut x a b := slice_cut hab hbx
  rw [hcut]
  refine told _ _ _ _ _ hb L1 _ _ _ _ _ _ _ _ X F2 N2 Fs1 T rfl rfl hnd1 ?_ ?_ fun v h3 tk3 frs3 hv Fs3 SU3 F3 N3 => ?_
  · simp [cut]; omega
  · ktr_room
  clear F2 N2
  rcases hv with ⟨hasc, u, rfl⟩ | ⟨hasc, rfl⟩
  · k_steps
    rename Fr _ _ _ _ => F4
    rename News _ _ _ _ => N4
    rename_i D h4 hlt4
    refine ⟨_, (r, listOf items.toArray cap) :: (D, listOf [Value.bytes (bytesOf (cut x a b)) u].toArray 0) :: rest, frs3, F4, fun p hp => N4 p ?_, SU3, ?_, fun frs5 Fs5 SU5 F5 N5 => ret D _ _ [Value.bytes (bytesOf (cut x a b)) u] 0 items cap frs5 ?_ ?_ ?_ Fs5 SU5 F5 N5⟩
    · simp only [List.cons_append, List.mem_cons] at hp ⊢
      rcases hp with hp | hp | hp
      · exact .inr (.inl hp)
      · exact .inl hp
      · exact .inr (.inr hp)
    · simp only [List.all_cons, hnd, Bool.and_true]; rfl
    · rw [partsOf, if_pos (show asc x a b from hasc)]; exact .cons _ _ .nil
    · rw [refsOf, if_pos (show asc x a b from hasc), List.append_nil]; exact hI
    · exact Nat.ne_of_gt (hlt4 _ (List.mem_append_left _ List.mem_cons_self))
  · k_steps
    rename Fr _ _ _ _ => F4
    rename News _ _ _ _ => N4
    have hrne : ∀ p ∈ rest ++ frs3, p.1 ≠ r := fun p hp => by
      rcases List.mem_append.mp hp with hp | hp
      · exact hr p hp
      · exact apart Fs3 N4 (List.mem_cons_self) rfl p hp
    refine append_K (hsz := ?z) F4 N4 (Upd.head hrne) (fun h5 F5 N5 => ?_)
    case z => simp [sizeLine]; omega
    clear F4 N4
    simp only [List.push_toArray] at N5
    have hxl : (a : Int) < (x.length : Int) := by show (a : Int) < (x.cps.size : Int); omega
    have hxl2 : 0 ≤ (a : Int) := by omega
    have hI5 : IntsAre (items ++ [Value.int (100 * (a : Int) + (b : Int)) (tk + 1 + 1)]) (ns ++ [100 * (a : Int) + (b : Int)]) := ints_snoc hI _ _
    have hl5 : (items ++ [Value.int (100 * (a : Int) + (b : Int)) (tk + 1 + 1)]).length = items.length + 1 := by simp
    generalize items ++ [Value.int (100 * (a : Int) + (b : Int)) (tk + 1 + 1)] = items5 at N5 hI5 hl5
    have hnd5 : ((r, listOf items5.toArray (cap + 1)) :: rest).all notDict = true := by simp only [List.all_cons, hnd, Bool.and_true]; rfl
    have hmid : ((a : Int) + (b : Int)).fdiv 2 = (((a + b) / 2 : Nat) : Int) := by
      rw [Int.fdiv_eq_ediv_of_nonneg _ (by decide)]; omega
    k_steps
    · rename ((b : Int) - (a : Int) = 1) => hne
      have hitem : Txt.item x (a : Int) = ⟨#[x.cps.getD a 0]⟩ := item_at (by omega)
      have hcp0 : x.cps.getD a 0 < 100000 := by
        rw [Array.getD_eq_getD_getElem?, Array.getElem?_eq_getElem (by omega)]
        exact hcp _ (Array.getElem_mem _)
      rw [hitem]
      refine spelled _ _ _ _ _ hb L1 _ _ frs3 _ _ _ _ _ X F5 N5 Fs3 T rfl rfl hnd5 hcp0 ?_ fun u6 h6 tk6 frs6 Fs6 SU6 F6 N6 => ?_
      · ktr_room
      clear F5 N5
      k_steps
      refine told _ _ _ _ _ hb L1 _ _ frs6 _ _ _ _ _ X F6 N6 Fs6 T rfl rfl hnd5 ?_ ?_ fun v7 h7 tk7 frs7 hv7 Fs7 SU7 F7 N7 => ?_
      · have := spell_size _ hcp0; omega
      · ktr_room
      clear F6 N6
      rcases hv7 with ⟨_, u7, rfl⟩ | ⟨hbad, _⟩
      · k_steps
        rename Fr _ _ _ _ => F8
        rename News _ _ _ _ => N8
        rename_i D h8 hlt8
        refine ⟨_, (r, listOf items5.toArray (cap + 1)) :: (D, listOf [Value.bytes (bytesOf (spell (x.cps.getD a 0))) u7].toArray 0) :: rest, frs7, F8, fun p hp => N8 p ?_, (SU3.trans SU6).trans SU7, ?_, fun frs9 Fs9 SU9 F9 N9 => ret D _ _ [Value.bytes (bytesOf (spell (x.cps.getD a 0))) u7] 0 items5 (cap + 1) frs9 ?_ ?_ ?_ Fs9 SU9 F9 N9⟩
        · simp only [List.cons_append, List.mem_cons] at hp ⊢
          rcases hp with hp | hp | hp
          · exact .inr (.inl hp)
          · exact .inl hp
          · exact .inr (.inr hp)
        · simp only [List.all_cons, hnd, Bool.and_true]; rfl
        · rw [partsOf, if_neg (show ¬ asc x a b from hasc), if_pos (by omega)]; exact .cons _ _ .nil
        · rw [refsOf, if_neg (show ¬ asc x a b from hasc), if_pos (by omega)]; exact hI5
        · exact Nat.ne_of_gt (hlt8 _ (List.mem_append_left _ List.mem_cons_self))
      · exact absurd (spell_ascii _) hbad
    · rename ((b : Int) - (a : Int) ≠ 1) => hne
      rename Fr _ _ _ _ => F6
      rename News _ _ _ _ => N6
      rw [hmid]
      refine IH _ _ _ _ _ hb L1 _ r _ _ _ rest frs3 _ a ((a + b) / 2) t ta _ _ _ X F6 N6 Fs3 T rfl rfl hnd hr hI5 (by omega) (by omega) (by omega) (by omega) (by show dp + 1 + 2 * n + 20 < recursionLimit; omega) fun D1 h7 tk7 vs1 capD1 items1 cap1 frs4 hB1 hI1 hD1 Fs4 SU4 F7 N7 => ?_
      clear F6 N6
      k_steps
      rw [hmid]
      have hnd7 : ((D1, listOf vs1.toArray capD1) :: rest).all notDict = true := by simp only [List.all_cons, hnd, Bool.and_true]; rfl
      have hr7 : ∀ p ∈ ((D1, listOf vs1.toArray capD1) :: rest), p.1 ≠ r := fun p hp => by
        rcases List.mem_cons.mp hp with rfl | hp
        · exact hD1
        · exact hr p hp
      have hl7 : items1.length ≤ items.length + 200 := by
        have h1 := hI1.length
        have h2 := refs_len x n a ((a + b) / 2) (by omega)
        have h3 := hI.length
        simp only [List.length_append, List.length_singleton] at h1
        omega
      refine IH _ _ _ _ _ hb L1 _ r _ _ _ ((D1, listOf vs1.toArray capD1) :: rest) frs4 _ ((a + b) / 2) b t _ tb _ _ X F7 N7 Fs4 T rfl rfl hnd7 hr7 hI1 (by omega) (by omega) (by omega) (by omega) (by show dp + 1 + 2 * n + 20 < recursionLimit; omega) fun D2 h8 tk8 vs2 capD2 items2 cap2 frs5 hB2 hI2 hD2 Fs5 SU5 F8 N8 => ?_
      clear F7 N7
      k_steps
      have m1 : (D1, listOf vs1.toArray capD1) ∈ ((r, listOf items2.toArray cap2) :: (D2, listOf vs2.toArray capD2) :: (D1, listOf vs1.toArray capD1) :: rest) ++ frs5 := by simp
      have m2 : (D2, listOf vs2.toArray capD2) ∈ ((r, listOf items2.toArray cap2) :: (D2, listOf vs2.toArray capD2) :: (D1, listOf vs1.toArray capD1) :: rest) ++ frs5 := by simp
      have b1 := hB1.length
      have b2 := hB2.length
      have p1 := parts_len x n a ((a + b) / 2) (by omega)
      have p2 := parts_len x n ((a + b) / 2) b (by omega)
      refine add_lists F8 N8 ⟨_, (N8 _ m1).1, rfl, _, rfl⟩ ⟨_, (N8 _ m2).1, rfl, _, rfl⟩ (fun h9 F9 N9 => ?_) (by simp [sizeLine]; omega)
      have hD9 : h8.objs.size ≠ r := Nat.ne_of_gt (Heap.lt_size (N8 _ List.mem_cons_self).1)
      clear F8
      k_steps
      refine ⟨_, (r, listOf items2.toArray cap2) :: (h8.objs.size, listOf (vs1 ++ vs2).toArray 0) :: rest, frs5, F9, fun p hp => N9 p ?_, (SU3.trans SU4).trans SU5, ?_, fun frs6 Fs6 SU6 F6 N6 => ret h8.objs.size _ _ (vs1 ++ vs2) 0 items2 cap2 frs6 ?_ ?_ ?_ Fs6 SU6 F6 N6⟩
      · simp only [List.cons_append, List.mem_cons] at hp ⊢
        rcases hp with hp | hp | hp
        · exact .inr (.inl hp)
        · exact .inl hp
        · exact .inr (.inr (.inr (.inr hp)))
      · simp only [List.all_cons, hnd, Bool.and_true]; rfl
      · rw [partsOf, if_neg (show ¬ asc x a b from hasc), if_neg (by omega)]; exact hB1.append hB2
      · rw [refsOf, if_neg (show ¬ asc x a b from hasc), if_neg (by omega)]
        simpa using hI2
      · exact hD9

theorem halves {w : World} {mean : ExcName → Option Value} {mg mb : Str → Option Value} {x : Str} (hx : x.cps.size ≤ 90) (hcp : ∀ c ∈ x.cps, c < 100000) : ∀ n, Halves w mean mg mb x n
  | 0 => by
    intro dp un gd env l hb L m r items ns cap rest frs s a b t ta tb Q E X F N Fs T hf hk hnd hr hI hab hbx hn hlen hroom ret
    exfalso; omega
  | n + 1 => halves_step hx hcp n (halves hx hcp n)
end Mine
end

section
open PySem PySem.W PyProof.Rows PySem.Calls PySem.Spec
set_option maxRecDepth 100000
namespace Mine
def gallop' : Bool → Keyed → Array Keyed → Nat → Nat → Nat → StateT SortSt Sem (Option Nat) := sortPriv% PySem.Builtin.gallop
def setMinGallop' : Nat → StateT SortSt Sem Unit := sortPriv% PySem.Builtin.setMinGallop
def mergeLo' : Array Keyed → Array Keyed → StateT SortSt Sem (Array Keyed) := sortPriv% PySem.Builtin.mergeLo
def mergeHi' : Array Keyed → Array Keyed → StateT SortSt Sem (Array Keyed) := sortPriv% PySem.Builtin.mergeHi

def IsI (p : Keyed) : Prop := ∃ n t, p.1 = .int n t
abbrev kap (p : Keyed) : Int := numOf p.1

local macro_rules | `(tactic| walk_at "km un gallop") => `(tactic| (unfold gallop'; delta $(Lean.mkIdent (Lean.mkPrivateNameCore `PySem.Builtin.List.W1All `PySem.Builtin.gallop)):ident))

section
variable {prog : Program} {w : World} {A : Around} {E : Value → Shared → Prop} {s : Shared}

theorem wpS_lt {st : SortSt} {x y : Keyed} {Q : Option Bool → SortSt → Prop} (hk : kindOf st = oneType') (hx : IsI x) (hy : IsI y)
    (h : Q (some (decide (kap x < kap y))) st) : wpS (model prog w) A E s (lt' x y) Q st := by
  obtain ⟨a, t, ex⟩ := hx
  obtain ⟨b, u, ey⟩ := hy
  rw [lt'_eq]
  refine wpS_bind (wpS_get ?_)
  rw [hk, keyLt'_oneType, ex, ey]
  refine wpS_bind (wpS_lift (wpAny_attempt (oneLt_int ⟨rfl, ?_⟩)))
  unfold kap at h
  rw [ex, ey] at h
  exact wpS_pure h

theorem wpS_elem {st : SortSt} {arr : Array Keyed} {i : Nat} {Q : Keyed → SortSt → Prop} (hi : i < arr.size) (h : Q arr[i] st) :
    wpS (model prog w) A E s (elem' arr i) Q st := by
  rw [elem'_eq, getElem?_pos arr i hi]
  exact wpS_pure h

/-- gallop, of a stretch that rises -/
theorem wpS_gallop {st : SortSt} {left : Bool} {key : Keyed} {arr : Array Keyed} {base n hint : Nat} {Q : Option Nat → SortSt → Prop} (hk : kindOf st = oneType') (hx : IsI key)
    (ha : ∀ p ∈ arr.toList, IsI p) (hbn : base + n ≤ arr.size) (hs : ∀ i j, i ≤ j → j < n → K arr (base + i) ≤ K arr (base + j)) (hh : hint < n)
    (h : ∀ k, k ≤ n → (∀ i, i < k → if left then K arr (base + i) < kap key else K arr (base + i) ≤ kap key) → (∀ i, k ≤ i → i < n → if left then kap key ≤ K arr (base + i) else kap key < K arr (base + i)) → Q (some k) st) :
    wpS (model prog w) A E s (gallop' left key arr base n hint) Q st := by
  obtain ⟨P, hP⟩ : ∃ P : Nat → Bool, P = fun i => if left then decide (K arr (base + i) < kap key) else !decide (kap key < K arr (base + i)) := ⟨_, rfl⟩
  have hmono : ∀ i j, i ≤ j → j < n → P j = true → P i = true := by
    intro i j hij hj hp
    have := hs i j hij hj
    rw [hP] at hp ⊢
    cases left with
    | true => simp only [if_true, decide_eq_true_eq] at hp ⊢; omega
    | false => simp only [Bool.false_eq_true, if_false, Bool.not_eq_true', decide_eq_false_iff_not] at hp ⊢; omega
  have hmono' : ∀ i j, i ≤ j → j < n → P i = false → P j = false := fun i j hij hj e => by
    cases hp : P j with
    | false => rfl
    | true => rw [hmono i j hij hj hp] at e; cases e
  replace h : ∀ k, k ≤ n → (∀ i, i < k → P i = true) → (∀ i, k ≤ i → i < n → P i = false) → Q (some k) st := by
    intro k hk1 h1 h2
    refine h k hk1 (fun i hi => ?_) fun i h3 h4 => ?_
    · have := h1 i hi
      rw [hP] at this
      cases left <;> simp_all
    · have := h2 i h3 h4
      rw [hP] at this
      cases left <;> simp_all
  walk_at "km un gallop"
  extract_lets beyond l0 o0 lo0 hi0
  have hb : ∀ i, i < n → ∀ Q' : Option Bool → SortSt → Prop, Q' (some (P i)) st → wpS (model prog w) A E s (beyond i) Q' st := by
    intro i hi Q' hQ
    have hsz : base + i < arr.size := by omega
    have hm : IsI arr[base + i] := ha _ (by simp)
    have e := K_eq hsz
    rw [hP] at hQ
    dsimp only at hQ
    rw [e] at hQ
    refine wpS_bind (wpS_elem hsz ?_)
    cases left with
    | true => exact wpS_lt hk hm hx hQ
    | false => exact wpS_bind (wpS_lt hk hx hm (wpS_pure hQ))
  clear_value beyond
  subst l0 o0 lo0 hi0
  refine wpS_bind (hb _ hh _ ?_)
  dsimp only
  cases hp : P hint with
  | true =>
    simp only [if_true]
    refine wpS_bind (wpS_mono (wpS_forRange
      (I := fun x c st' => st' = st ∧ ∃ l o, c = (none, l, o) ∧ x < o ∧ l < o ∧ l < n - hint ∧ P (hint + l) = true)
      (Q := fun c st' => st' = st ∧ ∃ l o, c = (none, l, o) ∧ l < o ∧ l < n - hint ∧ P (hint + l) = true ∧ (n - hint ≤ o ∨ (o < n - hint ∧ P (hint + o) = false)))
      ?step ?fin ⟨rfl, 0, 1, rfl, by omega, by omega, by omega, hp⟩) ?post)
    case fin =>
      rintro c st' ⟨rfl, l, o, rfl, h1, h2, h3, h4⟩
      exact ⟨rfl, l, o, rfl, h2, h3, h4, .inl (by omega)⟩
    case step =>
      rintro x c st' _ hx ⟨rfl, l, o, rfl, h1, h2, h3, h4⟩
      dsimp only
      by_cases hge : o ≥ n - hint
      · rw [if_pos hge]; exact wpS_pure ⟨rfl, l, o, rfl, h2, h3, h4, .inl hge⟩
      · rw [if_neg hge]
        refine wpS_bind (hb _ (by omega) _ ?_)
        cases hq : P (hint + o) with
        | true =>
          simp only [Bool.not_true, Bool.false_eq_true, if_false]
          exact wpS_pure ⟨rfl, o, _, rfl, by omega, by omega, by omega, hq⟩
        | false =>
          simp only [Bool.not_false, if_true]
          exact wpS_pure ⟨rfl, l, o, rfl, h2, h3, h4, .inr ⟨by omega, hq⟩⟩
    case post =>
      rintro c st' ⟨rfl, l, o, rfl, h2, h3, h4, h5⟩
      dsimp only
      have hlo : ∀ i, i < hint + l + 1 → P i = true := fun i hi => hmono i (hint + l) (by omega) (by omega) h4
      have hhi : ∀ i, hint + min o (n - hint) ≤ i → i < n → P i = false := fun i h6 h7 => by
        rcases h5 with h5 | ⟨h5, h8⟩
        · omega
        · exact hmono' (hint + o) i (by omega) h7 h8
      refine wpS_bind (wpS_mono (wpS_forRange
        (I := fun x c st'' => st'' = st' ∧ ∃ l r, c = (none, l, r) ∧ l ≤ r ∧ r ≤ n ∧ r - l ≤ n - x ∧ (∀ i, i < l → P i = true) ∧ (∀ i, r ≤ i → i < n → P i = false))
        (Q := fun c st'' => st'' = st' ∧ ∃ l, c = (none, l, l) ∧ l ≤ n ∧ (∀ i, i < l → P i = true) ∧ (∀ i, l ≤ i → i < n → P i = false))
        ?step2 ?fin2 ⟨rfl, _, _, rfl, by omega, by omega, by omega, hlo, hhi⟩) ?post2)
      case fin2 =>
        rintro c st'' ⟨rfl, l, r, rfl, h1, h2, h3, h4, h5⟩
        have : l = r := by omega
        subst this
        exact ⟨rfl, l, rfl, h2, h4, h5⟩
      case step2 =>
        rintro x c st'' _ hx ⟨rfl, l, r, rfl, h1, h2, h3, h4, h5⟩
        dsimp only
        by_cases hge : l ≥ r
        · rw [if_pos hge]
          have : l = r := by omega
          subst this
          exact wpS_pure ⟨rfl, l, rfl, h2, h4, h5⟩
        · rw [if_neg hge]
          refine wpS_bind (hb _ (by omega) _ ?_)
          cases hp : P (l + (r - l) / 2) with
          | true =>
            simp only [if_true]
            exact wpS_pure ⟨rfl, _, _, rfl, by omega, by omega, by omega, fun i hi => hmono i _ (by omega) (by omega) hp, h5⟩
          | false =>
            simp only [Bool.false_eq_true, if_false]
            exact wpS_pure ⟨rfl, _, _, rfl, by omega, by omega, by omega, h4, fun i h6 h7 => hmono' _ i h6 h7 hp⟩
      case post2 =>
        rintro c st'' ⟨rfl, l, rfl, h2, h4, h5⟩
        exact wpS_pure (h l h2 h4 h5)
  | false =>
    simp only [Bool.false_eq_true, if_false]
    refine wpS_bind (wpS_mono (wpS_forRange
      (I := fun x c st' => st' = st ∧ ∃ l o, c = (none, l, o) ∧ x < o ∧ l < o ∧ l ≤ hint ∧ P (hint - l) = false)
      (Q := fun c st' => st' = st ∧ ∃ l o, c = (none, l, o) ∧ l < o ∧ l ≤ hint ∧ P (hint - l) = false ∧ (hint + 1 ≤ o ∨ (o ≤ hint ∧ P (hint - o) = true)))
      ?step ?fin ⟨rfl, 0, 1, rfl, by omega, by omega, by omega, hp⟩) ?post)
    case fin =>
      rintro c st' ⟨rfl, l, o, rfl, h1, h2, h3, h4⟩
      exact ⟨rfl, l, o, rfl, h2, h3, h4, .inl (by omega)⟩
    case step =>
      rintro x c st' _ hx ⟨rfl, l, o, rfl, h1, h2, h3, h4⟩
      dsimp only
      by_cases hge : o ≥ hint + 1
      · rw [if_pos hge]; exact wpS_pure ⟨rfl, l, o, rfl, h2, h3, h4, .inl hge⟩
      · rw [if_neg hge]
        refine wpS_bind (hb _ (by omega) _ ?_)
        cases hq : P (hint - o) with
        | true =>
          simp only [if_true]
          exact wpS_pure ⟨rfl, l, o, rfl, h2, h3, h4, .inr ⟨by omega, hq⟩⟩
        | false =>
          simp only [Bool.false_eq_true, if_false]
          exact wpS_pure ⟨rfl, o, _, rfl, by omega, by omega, by omega, hq⟩
    case post =>
      rintro c st' ⟨rfl, l, o, rfl, h2, h3, h4, h5⟩
      dsimp only
      have hlo : ∀ i, i < hint + 1 - min o (hint + 1) → P i = true := fun i hi => by
        rcases h5 with h5 | ⟨h5, h8⟩
        · omega
        · exact hmono i (hint - o) (by omega) (by omega) h8
      have hhi : ∀ i, hint - l ≤ i → i < n → P i = false := fun i h6 h7 => hmono' (hint - l) i (by omega) h7 h4
      refine wpS_bind (wpS_mono (wpS_forRange
        (I := fun x c st'' => st'' = st' ∧ ∃ l r, c = (none, l, r) ∧ l ≤ r ∧ r ≤ n ∧ r - l ≤ n - x ∧ (∀ i, i < l → P i = true) ∧ (∀ i, r ≤ i → i < n → P i = false))
        (Q := fun c st'' => st'' = st' ∧ ∃ l, c = (none, l, l) ∧ l ≤ n ∧ (∀ i, i < l → P i = true) ∧ (∀ i, l ≤ i → i < n → P i = false))
        ?step2 ?fin2 ⟨rfl, _, _, rfl, by omega, by omega, by omega, hlo, hhi⟩) ?post2)
      case fin2 =>
        rintro c st'' ⟨rfl, l, r, rfl, h1, h2, h3, h4, h5⟩
        have : l = r := by omega
        subst this
        exact ⟨rfl, l, rfl, h2, h4, h5⟩
      case step2 =>
        rintro x c st'' _ hx ⟨rfl, l, r, rfl, h1, h2, h3, h4, h5⟩
        dsimp only
        by_cases hge : l ≥ r
        · rw [if_pos hge]
          have : l = r := by omega
          subst this
          exact wpS_pure ⟨rfl, l, rfl, h2, h4, h5⟩
        · rw [if_neg hge]
          refine wpS_bind (hb _ (by omega) _ ?_)
          cases hp : P (l + (r - l) / 2) with
          | true =>
            simp only [if_true]
            exact wpS_pure ⟨rfl, _, _, rfl, by omega, by omega, by omega, fun i hi => hmono i _ (by omega) (by omega) hp, h5⟩
          | false =>
            simp only [Bool.false_eq_true, if_false]
            exact wpS_pure ⟨rfl, _, _, rfl, by omega, by omega, by omega, h4, fun i h6 h7 => hmono' _ i h6 h7 hp⟩
      case post2 =>
        rintro c st'' ⟨rfl, l, rfl, h2, h4, h5⟩
        exact wpS_pure (h l h2 h4 h5)
end
end Mine
end

section
open PySem PySem.W PyProof.Rows PySem.Calls PySem.Spec
set_option maxRecDepth 100000
namespace Mine

/-- what is merged so far -/
structure Mer (a b out u v : List Keyed) : Prop where
  perm : (out ++ u ++ v).Perm (a ++ b)
  sorted : out.Pairwise fun p q => kap p ≤ kap q
  low : ∀ p ∈ out, ∀ q ∈ u ++ v, kap p ≤ kap q

theorem Mer.takeA {a b out c u v : List Keyed} (h : Mer a b out (c ++ u) v) (hu : (c ++ u).Pairwise fun p q => kap p ≤ kap q) (hc : ∀ x ∈ c, ∀ q ∈ v, kap x ≤ kap q) : Mer a b (out ++ c) u v := by
  refine ⟨by simpa [List.append_assoc] using h.perm, List.pairwise_append.mpr ⟨h.sorted, (List.pairwise_append.mp hu).1, fun p hp q hq => h.low p hp q (by simp [hq])⟩, fun p hp q hq => ?_⟩
  rcases List.mem_append.mp hp with hp | hp
  · refine h.low p hp q ?_
    rcases List.mem_append.mp hq with hq | hq <;> simp [hq]
  · rcases List.mem_append.mp hq with hq | hq
    · exact (List.pairwise_append.mp hu).2.2 p hp q hq
    · exact hc p hp q hq

theorem Mer.takeB {a b out c u v : List Keyed} (h : Mer a b out u (c ++ v)) (hv : (c ++ v).Pairwise fun p q => kap p ≤ kap q) (hc : ∀ x ∈ c, ∀ q ∈ u, kap x ≤ kap q) : Mer a b (out ++ c) u v := by
  refine ⟨?_, List.pairwise_append.mpr ⟨h.sorted, (List.pairwise_append.mp hv).1, fun p hp q hq => h.low p hp q (by simp [hq])⟩, fun p hp q hq => ?_⟩
  · refine List.Perm.trans ?_ h.perm
    rw [List.append_assoc, List.append_assoc, List.append_assoc]
    refine List.Perm.append_left out ?_
    rw [← List.append_assoc, ← List.append_assoc]
    exact List.Perm.append_right v List.perm_append_comm
  · rcases List.mem_append.mp hp with hp | hp
    · refine h.low p hp q ?_
      rcases List.mem_append.mp hq with hq | hq <;> simp [hq]
    · rcases List.mem_append.mp hq with hq | hq
      · exact hc p hp q hq
      · exact (List.pairwise_append.mp hv).2.2 p hp q hq

abbrev Srt (xs : Array Keyed) : Prop := ∀ i j, i ≤ j → j < xs.size → K xs i ≤ K xs j

theorem K_lt {xs : Array Keyed} {i : Nat} (hi : i < xs.size) : K xs i = kap xs[i] := K_eq hi

theorem mem_drop_K {xs : Array Keyed} {n : Nat} {p : Keyed} (h : p ∈ xs.toList.drop n) : ∃ i, n ≤ i ∧ i < xs.size ∧ kap p = K xs i := by
  obtain ⟨i, hi, e⟩ := List.mem_iff_getElem.mp h
  have hi' : n + i < xs.size := by simpa [Nat.lt_sub_iff_add_lt, Nat.add_comm] using hi
  refine ⟨n + i, by omega, hi', ?_⟩
  rw [K_lt hi', ← e]
  simp

theorem mem_take_K {xs : Array Keyed} {n : Nat} {p : Keyed} (h : p ∈ xs.toList.take n) : ∃ i, i < n ∧ i < xs.size ∧ kap p = K xs i := by
  obtain ⟨i, hi, e⟩ := List.mem_iff_getElem.mp h
  have hi' : i < n ∧ i < xs.size := by simp at hi; omega
  refine ⟨i, hi'.1, hi'.2, ?_⟩
  rw [K_lt hi'.2, ← e]
  simp

theorem Srt.pairwise {xs : Array Keyed} (h : Srt xs) : xs.toList.Pairwise fun p q => kap p ≤ kap q := by
  rw [List.pairwise_iff_getElem]
  intro i j hi hj hij
  have hi' : i < xs.size := by simpa using hi
  have hj' : j < xs.size := by simpa using hj
  have := h i j (Nat.le_of_lt hij) hj'
  rw [K_lt hi', K_lt hj'] at this
  simpa using this

theorem srt_of {xs : Array Keyed} (h : xs.toList.Pairwise fun p q => kap p ≤ kap q) : Srt xs := by
  intro i j hij hj
  rw [K_lt hj, K_lt (by omega)]
  rcases Nat.lt_or_eq_of_le hij with h1 | h1
  · have := List.pairwise_iff_getElem.mp h i j (by simpa using (by omega : i < xs.size)) (by simpa using hj) h1
    simpa using this
  · subst h1; exact Int.le_refl _

def MR (a b r : Array Keyed) : Prop := r.toList.Perm (a.toList ++ b.toList) ∧ Srt r

structure MI (a b out : Array Keyed) (ia ib : Nat) : Prop where
  mer : Mer a.toList b.toList out.toList (a.toList.drop ia) (b.toList.drop ib)

theorem ext_toList (a : Array Keyed) (i k : Nat) : (a.extract i (i + k)).toList = (a.toList.drop i).take k := by
  simp
theorem ext_toList_end (a : Array Keyed) (i : Nat) : (a.extract i a.size).toList = a.toList.drop i := by
  simp [List.take_of_length_le]

theorem MI.runA {a b out : Array Keyed} {ia ib k : Nat} (h : MI a b out ia ib) (ha : Srt a) (hc : ∀ i, i < k → ia + i < a.size → ∀ j, ib ≤ j → j < b.size → K a (ia + i) ≤ K b j) :
    MI a b (out ++ a.extract ia (ia + k)) (ia + k) ib := by
  have e : a.toList.drop ia = (a.toList.drop ia).take k ++ a.toList.drop (ia + k) := by
    rw [← List.drop_drop, List.take_append_drop]
  have h' := h.mer
  have hs : (a.toList.drop ia).Pairwise fun p q => kap p ≤ kap q := ha.pairwise.drop
  rw [e] at h' hs
  have h2 := h'.takeA hs fun x hx q hq => by
    obtain ⟨j, hj1, hj2, ej⟩ := mem_drop_K hq
    obtain ⟨i, hi, ei⟩ := List.mem_iff_getElem.mp hx
    have hi' : i < k ∧ ia + i < a.size := by simp at hi; omega
    have := hc i hi'.1 hi'.2 j hj1 hj2
    rw [K_lt hi'.2] at this
    rw [ej, ← ei]
    simpa using this
  refine ⟨?_⟩
  rw [Array.toList_append, ext_toList]
  exact h2

theorem MI.runB {a b out : Array Keyed} {ia ib k : Nat} (h : MI a b out ia ib) (hb : Srt b) (hc : ∀ i, i < k → ib + i < b.size → ∀ j, ia ≤ j → j < a.size → K b (ib + i) ≤ K a j) :
    MI a b (out ++ b.extract ib (ib + k)) ia (ib + k) := by
  have e : b.toList.drop ib = (b.toList.drop ib).take k ++ b.toList.drop (ib + k) := by
    rw [← List.drop_drop, List.take_append_drop]
  have h' := h.mer
  have hs : (b.toList.drop ib).Pairwise fun p q => kap p ≤ kap q := hb.pairwise.drop
  rw [e] at h' hs
  have h2 := h'.takeB hs fun x hx q hq => by
    obtain ⟨j, hj1, hj2, ej⟩ := mem_drop_K hq
    obtain ⟨i, hi, ei⟩ := List.mem_iff_getElem.mp hx
    have hi' : i < k ∧ ib + i < b.size := by simp at hi; omega
    have := hc i hi'.1 hi'.2 j hj1 hj2
    rw [K_lt hi'.2] at this
    rw [ej, ← ei]
    simpa using this
  refine ⟨?_⟩
  rw [Array.toList_append, ext_toList]
  exact h2

theorem push_run {a out : Array Keyed} {i : Nat} (hi : i < a.size) : out.push a[i] = out ++ a.extract i (i + 1) := by
  apply Array.toList_inj.mp
  rw [Array.toList_append, ext_toList, Array.toList_push]
  congr 1
  rw [List.drop_eq_getElem_cons (by simpa using hi)]
  simp

theorem MI.pushA {a b out : Array Keyed} {ia ib : Nat} (h : MI a b out ia ib) (ha : Srt a) (hi : ia < a.size) (hc : ∀ j, ib ≤ j → j < b.size → K a ia ≤ K b j) : MI a b (out.push a[ia]) (ia + 1) ib := by
  rw [push_run hi]
  exact h.runA ha fun i hi1 _ => by
    have : i = 0 := by omega
    subst this; exact hc
theorem MI.pushB {a b out : Array Keyed} {ia ib : Nat} (h : MI a b out ia ib) (hb : Srt b) (hi : ib < b.size) (hc : ∀ j, ia ≤ j → j < a.size → K b ib ≤ K a j) : MI a b (out.push b[ib]) ia (ib + 1) := by
  rw [push_run hi]
  exact h.runB hb fun i hi1 _ => by
    have : i = 0 := by omega
    subst this; exact hc

theorem MI.done {a b out : Array Keyed} {ia ib : Nat} (h : MI a b out ia ib) (ha : Srt a) (hb : Srt b) (he : ib = b.size ∨ ia = a.size) : MR a b (out ++ a.extract ia a.size ++ b.extract ib b.size) := by
  have h' := h.mer
  refine ⟨by rw [Array.toList_append, Array.toList_append, ext_toList_end, ext_toList_end]; exact h'.perm, srt_of ?_⟩
  rw [Array.toList_append, Array.toList_append, ext_toList_end, ext_toList_end]
  have ha' : (a.toList.drop ia).Pairwise fun p q => kap p ≤ kap q := ha.pairwise.drop
  have hb' : (b.toList.drop ib).Pairwise fun p q => kap p ≤ kap q := hb.pairwise.drop
  refine List.pairwise_append.mpr ⟨List.pairwise_append.mpr ⟨h'.sorted, ha', fun p hp q hq => h'.low p hp q (by simp [hq])⟩, hb', fun p hp q hq => ?_⟩
  rcases List.mem_append.mp hp with hp | hp
  · exact h'.low p hp q (by simp [hq])
  · rcases he with e | e
    · rw [e, List.drop_of_length_le (by simp)] at hq; cases hq
    · rw [e, List.drop_of_length_le (by simp)] at hp; cases hp

theorem MI.last {a b out : Array Keyed} {ia ib : Nat} (h : MI a b out ia ib) (ha : Srt a) (hb : Srt b) (hl : ∀ i j, ia ≤ i → i < a.size → ib ≤ j → j < b.size → K b j ≤ K a i) : MR a b (out ++ b.extract ib b.size ++ a.extract ia a.size) := by
  have h' := h.mer
  refine ⟨?_, srt_of ?_⟩
  · rw [Array.toList_append, Array.toList_append, ext_toList_end, ext_toList_end]
    refine List.Perm.trans ?_ h'.perm
    rw [List.append_assoc, List.append_assoc]
    exact List.Perm.append_left _ List.perm_append_comm
  · rw [Array.toList_append, Array.toList_append, ext_toList_end, ext_toList_end]
    have ha' : (a.toList.drop ia).Pairwise fun p q => kap p ≤ kap q := ha.pairwise.drop
    have hb' : (b.toList.drop ib).Pairwise fun p q => kap p ≤ kap q := hb.pairwise.drop
    refine List.pairwise_append.mpr ⟨List.pairwise_append.mpr ⟨h'.sorted, hb', fun p hp q hq => h'.low p hp q (by simp [hq])⟩, ha', fun p hp q hq => ?_⟩
    rcases List.mem_append.mp hp with hp | hp
    · exact h'.low p hp q (by simp [hq])
    · obtain ⟨j, hj1, hj2, ej⟩ := mem_drop_K hp
      obtain ⟨i, hi1, hi2, ei⟩ := mem_drop_K hq
      rw [ej, ei]; exact hl i j hi1 hi2 hj1 hj2

theorem MI.start (a b : Array Keyed) : MI a b #[] 0 0 := ⟨⟨by simp, by simp, by simp⟩⟩
end Mine
end

section
open PySem PySem.W PyProof.Rows PySem.Calls PySem.Spec
set_option maxRecDepth 100000
namespace Mine
local macro_rules | `(tactic| walk_at "km un mergeLo") => `(tactic| (unfold mergeLo'; delta $(Lean.mkIdent (Lean.mkPrivateNameCore `PySem.Builtin.List.W1All `PySem.Builtin.mergeLo)):ident))

/-- nothing but the gallop's measure has changed -/
structure Sm (st st' : SortSt) : Prop where
  kind : kindOf st' = kindOf st
  arr : arrOf st' = arrOf st
  pend : pendingOf st' = pendingOf st
  failed : failedOf st' = failedOf st
theorem Sm.refl (st : SortSt) : Sm st st := ⟨rfl, rfl, rfl, rfl⟩
theorem Sm.trans {a b c : SortSt} (h : Sm a b) (h' : Sm b c) : Sm a c := ⟨h'.kind.trans h.kind, h'.arr.trans h.arr, h'.pend.trans h.pend, h'.failed.trans h.failed⟩

section
variable {prog : Program} {w : World} {A : Around} {E : Value → Shared → Prop} {s : Shared}

theorem wpS_setMin {st : SortSt} {g : Nat} {Q : Unit → SortSt → Prop} (h : ∀ st', Sm st st' → Q () st') : wpS (model prog w) A E s (setMinGallop' g) Q st := by
  refine wpS_modify (h _ ⟨rfl, rfl, rfl, rfl⟩)

/-- both branches of a choice follow from one law -/
theorem wpS_iteP {σ α : Type} {M : Model} {c : Prop} {_ : Decidable c} {X Y : StateT σ Sem α} {Q : α → σ → Prop} {st : σ} {P : Prop} (hx : P → wpS M A E s X Q st) (hy : P → wpS M A E s Y Q st) (hp : P) : wpS M A E s (if c then X else Y) Q st := by
  split
  · exact hx hp
  · exact hy hp
theorem wpS_iteP' {σ α : Type} {M : Model} {c : Prop} {_ : Decidable c} {X Y : StateT σ Sem α} {Q : α → σ → Prop} {st : σ} {P : Prop} (hx : c → P → wpS M A E s X Q st) (hy : ¬ c → P → wpS M A E s Y Q st) (hp : P) : wpS M A E s (if c then X else Y) Q st := by
  split
  · exact hx ‹_› hp
  · exact hy ‹_› hp

theorem wpS_mergeLo {st : SortSt} {a b : Array Keyed} {Q : Array Keyed → SortSt → Prop} (hk : kindOf st = oneType') (ia : ∀ p ∈ a.toList, IsI p) (ib : ∀ p ∈ b.toList, IsI p)
    (ha : Srt a) (hb : Srt b) (h0a : 0 < a.size) (h0b : 0 < b.size) (hfirst : ∀ i, i < a.size → K b 0 ≤ K a i) (hlast : ∀ j, j < b.size → K b j < K a (a.size - 1))
    (h : ∀ r st', Sm st st' → MR a b r → Q r st') : wpS (model prog w) A E s (mergeLo' a b) Q st := by
  have m1 : MI a b #[b[0]] 0 1 := by
    have := (MI.start a b).pushB hb h0b (fun j _ hj => hfirst j hj)
    simpa using this
  walk_at "km un mergeLo"
  refine wpS_bind (wpS_lift (wpAny_rule ⟨rfl, ?_⟩))
  extract_lets total fdone flast
  refine wpS_bind (wpS_elem h0b ?_)
  dsimp only
  by_cases e1 : 1 = b.size
  · rw [if_pos (by simpa using e1)]
    exact wpS_pure (h _ _ (Sm.refl _) (m1.done ha hb (.inl e1)))
  rw [if_neg (by simpa using e1)]
  by_cases e2 : 1 = a.size
  · rw [if_pos (by simpa using e2)]
    refine wpS_pure (h _ _ (Sm.refl _) (m1.last ha hb fun i j _ hi _ hj => ?_))
    have := hlast j hj
    rw [show i = a.size - 1 by omega]; omega
  rw [if_neg (by simpa using e2)]
  refine wpS_bind (wpS_get ?_)
  refine wpS_bind (wpS_mono (wpS_forRange
    (I := fun x c st' => Sm st st' ∧ ∃ out ja jb g, c = (none, out, ja, jb, g) ∧ ja + 1 < a.size ∧ jb < b.size ∧ x + 1 ≤ ja + jb ∧ MI a b out ja jb)
    (Q := fun c st' => Sm st st' ∧ ∃ r rest, c = (some r, rest) ∧ MR a b r) ?step ?fin ⟨Sm.refl _, _, 0, 1, _, rfl, by omega, by omega, by omega, m1⟩) ?post)
  case fin =>
    rintro c st' ⟨_, out, ja, jb, g, rfl, h1, h2, h3, _⟩
    have : total = a.size + b.size := rfl
    omega
  case post =>
    rintro c st' ⟨hsm, r, rest, rfl, hr⟩
    exact wpS_pure (h r st' hsm hr)
  case step =>
    rintro x c st' _ hx ⟨hsm, out, ja, jb, g, rfl, h1, h2, h3, hm⟩
    dsimp only
    refine wpS_bind (wpS_mono (wpS_forRange
      (I := fun y c st'' => st'' = st' ∧ ∃ out ja jb u v, c = (none, out, ja, jb, u, v) ∧ ja + 1 < a.size ∧ jb < b.size ∧ x + 1 + y ≤ ja + jb ∧ MI a b out ja jb)
      (Q := fun c st'' => st'' = st' ∧ ((∃ r rest, c = (some r, rest) ∧ MR a b r) ∨
        ∃ out ja jb u v, c = (none, out, ja, jb, u, v) ∧ ja + 1 < a.size ∧ jb < b.size ∧ x + 2 ≤ ja + jb ∧ MI a b out ja jb)) ?step1 ?fin1 ⟨rfl, out, ja, jb, 0, 0, rfl, h1, h2, h3, hm⟩) ?post1)
    case fin1 =>
      rintro c st'' ⟨rfl, out, ja, jb, u, v, rfl, h1, h2, h3, hm⟩
      have : total = a.size + b.size := rfl
      omega
    case step1 =>
      rintro y c st'' _ hy ⟨rfl, out, ja, jb, u, v, rfl, h1, h2, h3, hm⟩
      dsimp only
      have h1' : ja < a.size := by omega
      refine wpS_bind (wpS_elem h2 ?_)
      refine wpS_bind (wpS_elem h1' ?_)
      refine wpS_bind (wpS_lt (hsm.kind.trans hk) (ib _ (by simp)) (ia _ (by simp)) ?_)
      rw [← K_lt h2, ← K_lt h1']
      dsimp only
      by_cases hw : K b jb < K a ja
      · simp only [hw, decide_true, if_true]
        refine wpS_bind (wpS_elem h2 ?_)
        have hm' := hm.pushB hb h2 fun i hi1 hi2 => by have := ha ja i hi1 hi2; omega
        by_cases e3 : jb + 1 = b.size
        · rw [if_pos (by simpa using e3)]
          exact wpS_pure ⟨rfl, .inl ⟨_, _, rfl, hm'.done ha hb (.inl e3)⟩⟩
        · rw [if_neg (by simpa using e3)]
          split
          · exact wpS_pure ⟨rfl, .inr ⟨_, ja, jb + 1, _, _, rfl, h1, by omega, by omega, hm'⟩⟩
          · exact wpS_pure ⟨rfl, _, ja, jb + 1, _, _, rfl, h1, by omega, by omega, hm'⟩
      · simp only [hw, decide_false, Bool.false_eq_true, if_false]
        refine wpS_bind (wpS_elem h1' ?_)
        have hm' := hm.pushA ha h1' fun i hi1 hi2 => by have := hb jb i hi1 hi2; omega
        by_cases e3 : ja + 1 + 1 = a.size
        · rw [if_pos (by simpa using e3)]
          refine wpS_pure ⟨rfl, .inl ⟨_, _, rfl, hm'.last ha hb fun i j hi1 hi2 _ hj => ?_⟩⟩
          have := hlast j hj
          rw [show i = a.size - 1 by omega]; omega
        · rw [if_neg (by simpa using e3)]
          split
          · exact wpS_pure ⟨rfl, .inr ⟨_, ja + 1, jb, _, _, rfl, by omega, h2, by omega, hm'⟩⟩
          · exact wpS_pure ⟨rfl, _, ja + 1, jb, _, _, rfl, by omega, h2, by omega, hm'⟩
    case post1 =>
      rintro c st'' ⟨rfl, ⟨r, rest, rfl, hr⟩ | ⟨out, ja, jb, u, v, rfl, h1, h2, h3, hm⟩⟩
      · exact wpS_pure ⟨hsm, r, _, rfl, hr⟩
      dsimp only
      refine wpS_bind (wpS_lift (wpAny_rule ⟨rfl, ?_⟩))
      refine wpS_bind (wpS_mono (wpS_forRange
        (I := fun y c st2 => Sm st st2 ∧ ∃ out ja jb g u v, c = (none, out, ja, jb, g, u, v) ∧ ja + 1 < a.size ∧ jb < b.size ∧ x + 2 + y ≤ ja + jb ∧ MI a b out ja jb)
        (Q := fun c st2 => Sm st st2 ∧ ((∃ r rest, c = (some r, rest) ∧ MR a b r) ∨
          ∃ out ja jb g u v, c = (none, out, ja, jb, g, u, v) ∧ ja + 1 < a.size ∧ jb < b.size ∧ x + 2 ≤ ja + jb ∧ MI a b out ja jb)) ?step2 ?fin2 ⟨hsm, out, ja, jb, _, u, v, rfl, h1, h2, h3, hm⟩) ?post2)
      case fin2 =>
        rintro c st2 ⟨_, out, ja, jb, g, u, v, rfl, h1, h2, h3, hm⟩
        have : total = a.size + b.size := rfl
        omega
      case post2 =>
        rintro c st2 ⟨hsm2, ⟨r, rest, rfl, hr⟩ | ⟨out, ja, jb, g, u, v, rfl, h1, h2, h3, hm⟩⟩
        · exact wpS_pure ⟨hsm2, r, _, rfl, hr⟩
        · dsimp only
          refine wpS_bind (wpS_setMin fun st3 h3' => wpS_pure ⟨hsm2.trans h3', out, ja, jb, _, rfl, h1, h2, by omega, hm⟩)
      case step2 =>
        rintro y c st2 _ hy ⟨hsm2, out, ja, jb, g, u, v, rfl, h1, h2, h3, hm⟩
        dsimp only
        refine' wpS_iteP ?hx ?hy ?hp
        case hx => intro hP; generalize g - 1 = gm; revert gm; exact hP
        case hy => intro hP; exact hP g
        case hp =>
        intro g'
        refine wpS_bind (wpS_setMin fun st3 hs3 => ?_)
        have hsm3 := hsm2.trans hs3
        refine wpS_bind (wpS_elem h2 ?_)
        refine wpS_bind (wpS_gallop (hsm3.kind.trans hk) (ib _ (by simp)) ia (by omega) (fun i j hij hj => ha _ _ (by omega) (by omega)) (by omega) fun k hk1 hk2 hk3 => ?_)
        simp only [Bool.false_eq_true, if_false] at hk2 hk3
        rw [← K_lt h2] at hk2 hk3
        dsimp only
        have hm1 : MI a b (out ++ a.extract ja (ja + k)) (ja + k) jb := hm.runA ha fun i hi hi' j hj1 hj2 => by have := hk2 i hi; have := hb jb j hj1 hj2; omega
        have hge : ∀ i, ja + k ≤ i → i < a.size → K b jb ≤ K a i := fun i hi1 hi2 => by
          have := hk3 (i - ja) (by omega) (by omega)
          rw [show ja + (i - ja) = i by omega] at this
          omega
        have hjk : ja + k ≤ a.size := by omega
        have hpk : x + 2 + y ≤ ja + k + jb := by omega
        have hk00 : ¬ k > 0 → ja = ja + k := by omega
        clear hk2 hk3 hk1
        refine' wpS_iteP' ?hx ?hy ?hp
        case hx =>
          intro _
          by_cases e3 : ja + k + 1 = a.size
          · rw [if_pos (by simpa using e3)]
            refine fun _ => wpS_pure ⟨hsm3, .inl ⟨_, _, rfl, hm1.last ha hb fun i j hi1 hi2 _ hj => ?_⟩⟩
            have := hlast j hj
            rw [show i = a.size - 1 by omega]; omega
          rw [if_neg (by simpa using e3)]
          by_cases e4 : ja + k = a.size
          · rw [if_pos (by simpa using e4)]
            exact fun _ => wpS_pure ⟨hsm3, .inl ⟨_, _, rfl, hm1.done ha hb (.inr e4)⟩⟩
          rw [if_neg (by simpa using e4)]
          have hJ : ja + k + 1 < a.size := by omega
          intro hP
          have hall := And.intro hm1 (And.intro hge (And.intro hpk hJ))
          revert hall
          generalize out ++ a.extract ja (ja + k) = O1
          generalize ja + k = J1
          revert J1 O1
          exact hP
        case hy =>
          intro e0 hP
          exact hP _ _ ⟨hm, fun i hi1 hi2 => hge i (by have := hk00 e0; omega) hi2, h3, h1⟩
        case hp =>
        clear hm1 hge hjk hpk hk00 hm h1 h3
        rintro out ja ⟨hm, hgX, hpX, hJ⟩
        refine wpS_bind (wpS_elem h2 ?_)
        have hm2 := hm.pushB hb h2 hgX
        by_cases e5 : jb + 1 = b.size
        · rw [if_pos (by simpa using e5)]
          exact wpS_pure ⟨hsm3, .inl ⟨_, _, rfl, hm2.done ha hb (.inl e5)⟩⟩
        rw [if_neg (by simpa using e5)]
        have hJ' := Nat.lt_of_succ_lt hJ
        refine wpS_bind (wpS_elem hJ' ?_)
        refine wpS_bind (wpS_gallop (hsm3.kind.trans hk) (ia _ (by simp)) ib (by omega) (fun i j hij hj => hb _ _ (by omega) (by omega)) (by omega) fun k2 hq1 hq2 hq3 => ?_)
        simp only [if_true] at hq2 hq3
        rw [← K_lt hJ'] at hq2 hq3
        dsimp only
        have hm3 := hm2.runB (k := k2) hb fun i hi hi' j hj1 hj2 => by have := hq2 i hi; have := ha _ j hj1 hj2; omega
        have hgY : ∀ j, jb + 1 + k2 ≤ j → j < b.size → K a ja ≤ K b j := fun j hj1 hj2 => by
          have := hq3 (j - (jb + 1)) (by omega) (by omega)
          rw [show jb + 1 + (j - (jb + 1)) = j by omega] at this
          exact this
        have hbk : jb + 1 + k2 ≤ b.size := by omega
        have hk0 : ¬ k2 > 0 → jb + 1 = jb + 1 + k2 := by omega
        have hpY : x + 2 + y ≤ ja + (jb + 1) := by omega
        have hpY2 : x + 2 + y ≤ ja + (jb + 1 + k2) := by omega
        have hB5 : jb + 1 < b.size := by omega
        clear hq1 hq2 hq3 hpX
        generalize out.push b[jb] = O0 at hm2 hm3 ⊢
        refine' wpS_iteP' ?hx ?hy ?hp
        case hx =>
          intro _
          by_cases e6 : jb + 1 + k2 = b.size
          · rw [if_pos (by simpa using e6)]
            exact fun _ => wpS_pure ⟨hsm3, .inl ⟨_, _, rfl, hm3.done ha hb (.inl e6)⟩⟩
          rw [if_neg (by simpa using e6)]
          have hB : jb + 1 + k2 < b.size := by omega
          intro hP
          have hall := And.intro hm3 (And.intro hgY (And.intro hpY2 hB))
          revert hall
          generalize O0 ++ b.extract (jb + 1) (jb + 1 + k2) = O1
          generalize jb + 1 + k2 = B1
          revert B1 O1
          exact hP
        case hy =>
          intro e0 hP
          exact hP _ _ ⟨hm2, fun j hj1 hj2 => hgY j (by have := hk0 e0; omega) hj2, hpY, hB5⟩
        case hp =>
        clear hm2 hm3 hgY hbk hk0 hpY hpY2 hB5
        rintro O B ⟨hmY, hgZ, hpZ, hB⟩
        refine wpS_bind (wpS_elem hJ' ?_)
        have hm4 := hmY.pushA ha hJ' hgZ
        by_cases e7 : ja + 1 + 1 = a.size
        · rw [if_pos (by simpa using e7)]
          refine wpS_pure ⟨hsm3, .inl ⟨_, _, rfl, hm4.last ha hb fun i j hi1 hi2 _ hj => ?_⟩⟩
          have := hlast j hj
          rw [show i = a.size - 1 by omega]; omega
        · rw [if_neg (by simpa using e7)]
          split
          · exact wpS_pure ⟨hsm3, .inr ⟨_, _, _, _, _, _, rfl, by omega, hB, by omega, hm4⟩⟩
          · exact wpS_pure ⟨hsm3, _, _, _, _, _, _, rfl, by omega, hB, by omega, hm4⟩
end
end Mine
end

section
open PySem PySem.W PyProof.Rows PySem.Calls PySem.Spec
set_option maxRecDepth 100000
namespace Mine
local macro_rules | `(tactic| walk_at "km un mergeHi") => `(tactic| (unfold mergeHi'; delta $(Lean.mkIdent (Lean.mkPrivateNameCore `PySem.Builtin.List.W1All `PySem.Builtin.mergeHi)):ident))

/-- what is merged so far, from the upper end -/
structure Meh (a b out u v : List Keyed) : Prop where
  perm : (u ++ v ++ out).Perm (a ++ b)
  sorted : out.Pairwise fun p q => kap p ≤ kap q
  high : ∀ q ∈ u ++ v, ∀ p ∈ out, kap q ≤ kap p

theorem Meh.takeA {a b out c u v : List Keyed} (h : Meh a b out (u ++ c) v) (hu : (u ++ c).Pairwise fun p q => kap p ≤ kap q) (hc : ∀ q ∈ v, ∀ x ∈ c, kap q ≤ kap x) : Meh a b (c ++ out) u v := by
  refine ⟨?_, List.pairwise_append.mpr ⟨(List.pairwise_append.mp hu).2.1, h.sorted, fun p hp q hq => h.high p (by simp [hp]) q hq⟩, fun q hq p hp => ?_⟩
  · refine List.Perm.trans ?_ h.perm
    rw [← List.append_assoc]
    refine List.Perm.append_right out ?_
    rw [List.append_assoc, List.append_assoc]
    exact List.Perm.append_left u List.perm_append_comm
  · rcases List.mem_append.mp hp with hp | hp
    · rcases List.mem_append.mp hq with hq | hq
      · exact (List.pairwise_append.mp hu).2.2 q hq p hp
      · exact hc q hq p hp
    · refine h.high q ?_ p hp
      rcases List.mem_append.mp hq with hq | hq <;> simp [hq]

theorem Meh.takeB {a b out c u v : List Keyed} (h : Meh a b out u (v ++ c)) (hv : (v ++ c).Pairwise fun p q => kap p ≤ kap q) (hc : ∀ q ∈ u, ∀ x ∈ c, kap q ≤ kap x) : Meh a b (c ++ out) u v := by
  refine ⟨by simpa [List.append_assoc] using h.perm, List.pairwise_append.mpr ⟨(List.pairwise_append.mp hv).2.1, h.sorted, fun p hp q hq => h.high p (by simp [hp]) q hq⟩, fun q hq p hp => ?_⟩
  rcases List.mem_append.mp hp with hp | hp
  · rcases List.mem_append.mp hq with hq | hq
    · exact hc q hq p hp
    · exact (List.pairwise_append.mp hv).2.2 q hq p hp
  · refine h.high q ?_ p hp
    rcases List.mem_append.mp hq with hq | hq <;> simp [hq]

structure MH (a b out : Array Keyed) (na nb : Nat) : Prop where
  meh : Meh a.toList b.toList out.toList.reverse (a.toList.take na) (b.toList.take nb)

theorem take_cut (a : Array Keyed) {i n : Nat} (h : i ≤ n) : a.toList.take n = a.toList.take i ++ (a.extract i n).toList := by
  have e : n = i + (n - i) := by omega
  rw [e, ext_toList, List.take_add]

theorem mem_ext_K {a : Array Keyed} {i n : Nat} {p : Keyed} (h : p ∈ (a.extract i n).toList) : ∃ j, i ≤ j ∧ j < n ∧ j < a.size ∧ kap p = K a j := by
  obtain ⟨k, hk, e⟩ := List.mem_iff_getElem.mp h
  have hk' : k < (a.extract i n).size := by rw [← Array.length_toList]; exact hk
  have hk2 : k < min n a.size - i := by rw [Array.size_extract] at hk'; exact hk'
  refine ⟨i + k, by omega, by omega, by omega, ?_⟩
  rw [K_lt (by omega), ← e]
  simp

theorem MH.runA {a b out : Array Keyed} {na nb i : Nat} (h : MH a b out na nb) (ha : Srt a) (hi : i ≤ na) (hc : ∀ j, i ≤ j → j < na → j < a.size → ∀ l, l < nb → l < b.size → K b l ≤ K a j) :
    MH a b (out ++ (a.extract i na).reverse) i nb := by
  have h' := h.meh
  have hs : (a.toList.take na).Pairwise fun p q => kap p ≤ kap q := ha.pairwise.take
  rw [take_cut a hi] at h' hs
  refine ⟨?_⟩
  rw [Array.toList_append, Array.toList_reverse, List.reverse_append, List.reverse_reverse]
  refine h'.takeA hs fun q hq x hx => ?_
  obtain ⟨l, hl1, hl2, el⟩ := mem_take_K hq
  obtain ⟨j, hj1, hj2, hj3, ej⟩ := mem_ext_K hx
  rw [el, ej]; exact hc j hj1 hj2 hj3 l hl1 hl2

theorem MH.runB {a b out : Array Keyed} {na nb i : Nat} (h : MH a b out na nb) (hb : Srt b) (hi : i ≤ nb) (hc : ∀ j, i ≤ j → j < nb → j < b.size → ∀ l, l < na → l < a.size → K a l ≤ K b j) :
    MH a b (out ++ (b.extract i nb).reverse) na i := by
  have h' := h.meh
  have hs : (b.toList.take nb).Pairwise fun p q => kap p ≤ kap q := hb.pairwise.take
  rw [take_cut b hi] at h' hs
  refine ⟨?_⟩
  rw [Array.toList_append, Array.toList_reverse, List.reverse_append, List.reverse_reverse]
  refine h'.takeB hs fun q hq x hx => ?_
  obtain ⟨l, hl1, hl2, el⟩ := mem_take_K hq
  obtain ⟨j, hj1, hj2, hj3, ej⟩ := mem_ext_K hx
  rw [el, ej]; exact hc j hj1 hj2 hj3 l hl1 hl2

theorem push_runR {a out : Array Keyed} {i : Nat} (hi : i < a.size) : out.push a[i] = out ++ (a.extract i (i + 1)).reverse := by
  have e := push_run (out := #[]) hi
  apply Array.toList_inj.mp
  have e2 : (a.extract i (i + 1)).toList = [a[i]] := by
    have := congrArg Array.toList e
    simpa using this.symm
  rw [Array.toList_append, Array.toList_reverse, e2, Array.toList_push]
  rfl

theorem MH.pushA {a b out : Array Keyed} {na nb : Nat} (h : MH a b out na nb) (ha : Srt a) (h1 : 1 ≤ na) (hi : na - 1 < a.size) (hc : ∀ l, l < nb → l < b.size → K b l ≤ K a (na - 1)) : MH a b (out.push a[na - 1]) (na - 1) nb := by
  rw [push_runR hi]
  have := h.runA (i := na - 1) ha (by omega) fun j hj1 hj2 _ => by
    have : j = na - 1 := by omega
    subst this; exact hc
  rw [show na - 1 + 1 = na by omega]
  exact this
theorem MH.pushB {a b out : Array Keyed} {na nb : Nat} (h : MH a b out na nb) (hb : Srt b) (h1 : 1 ≤ nb) (hi : nb - 1 < b.size) (hc : ∀ l, l < na → l < a.size → K a l ≤ K b (nb - 1)) : MH a b (out.push b[nb - 1]) na (nb - 1) := by
  rw [push_runR hi]
  have := h.runB (i := nb - 1) hb (by omega) fun j hj1 hj2 _ => by
    have : j = nb - 1 := by omega
    subst this; exact hc
  rw [show nb - 1 + 1 = nb by omega]
  exact this

theorem ext0 (a : Array Keyed) (n : Nat) : (a.extract 0 n).toList = a.toList.take n := by
  have := take_cut a (Nat.zero_le n)
  rw [List.take_zero, List.nil_append] at this
  exact this.symm

theorem MH.done {a b out : Array Keyed} {na nb : Nat} (h : MH a b out na nb) (ha : Srt a) (hb : Srt b) (he : na = 0 ∨ nb = 0) : MR a b (a.extract 0 na ++ b.extract 0 nb ++ out.reverse) := by
  have h' := h.meh
  refine ⟨by rw [Array.toList_append, Array.toList_append, ext0, ext0, Array.toList_reverse]; exact h'.perm, srt_of ?_⟩
  rw [Array.toList_append, Array.toList_append, ext0, ext0, Array.toList_reverse]
  have ha' : (a.toList.take na).Pairwise fun p q => kap p ≤ kap q := ha.pairwise.take
  have hb' : (b.toList.take nb).Pairwise fun p q => kap p ≤ kap q := hb.pairwise.take
  refine List.pairwise_append.mpr ⟨List.pairwise_append.mpr ⟨ha', hb', fun p hp q hq => ?_⟩, h'.sorted, fun p hp q hq => h'.high p hp q hq⟩
  rcases he with rfl | rfl
  · rw [List.take_zero] at hp; cases hp
  · rw [List.take_zero] at hq; cases hq

theorem MH.first {a b out : Array Keyed} {na nb : Nat} (h : MH a b out na nb) (ha : Srt a) (hb : Srt b) (hl : ∀ i j, i < na → i < a.size → j < nb → j < b.size → K b j ≤ K a i) : MR a b (b.extract 0 nb ++ a.extract 0 na ++ out.reverse) := by
  have h' := h.meh
  refine ⟨?_, srt_of ?_⟩
  · rw [Array.toList_append, Array.toList_append, ext0, ext0, Array.toList_reverse]
    exact List.Perm.trans (List.Perm.append_right _ List.perm_append_comm) h'.perm
  · rw [Array.toList_append, Array.toList_append, ext0, ext0, Array.toList_reverse]
    have ha' : (a.toList.take na).Pairwise fun p q => kap p ≤ kap q := ha.pairwise.take
    have hb' : (b.toList.take nb).Pairwise fun p q => kap p ≤ kap q := hb.pairwise.take
    refine List.pairwise_append.mpr ⟨List.pairwise_append.mpr ⟨hb', ha', fun p hp q hq => ?_⟩, h'.sorted, fun p hp q hq => h'.high p (by rcases List.mem_append.mp hp with hp | hp <;> simp [hp]) q hq⟩
    obtain ⟨j, hj1, hj2, ej⟩ := mem_take_K hp
    obtain ⟨i, hi1, hi2, ei⟩ := mem_take_K hq
    rw [ej, ei]; exact hl i j hi1 hi2 hj1 hj2

theorem MH.start (a b : Array Keyed) : MH a b #[] a.size b.size :=
  ⟨⟨by simp [List.take_of_length_le], by simp, by simp⟩⟩

section
variable {prog : Program} {w : World} {A : Around} {E : Value → Shared → Prop} {s : Shared}
theorem wpS_mergeHi {st : SortSt} {a b : Array Keyed} {Q : Array Keyed → SortSt → Prop} (hk : kindOf st = oneType') (ia : ∀ p ∈ a.toList, IsI p) (ib : ∀ p ∈ b.toList, IsI p)
    (ha : Srt a) (hb : Srt b) (h0a : 0 < a.size) (h0b : 0 < b.size) (hfirst : ∀ i, i < a.size → K b 0 ≤ K a i) (hlast : ∀ j, j < b.size → K b j < K a (a.size - 1))
    (h : ∀ r st', Sm st st' → MR a b r → Q r st') : wpS (model prog w) A E s (mergeHi' a b) Q st := by
  have h0a' : a.size - 1 < a.size := by omega
  have m1 : MH a b #[a[a.size - 1]] (a.size - 1) b.size := by
    have := (MH.start a b).pushA ha (by omega) h0a' (fun l _ hl => by have := hlast l hl; omega)
    simpa using this
  walk_at "km un mergeHi"
  refine wpS_bind (wpS_lift (wpAny_rule ⟨rfl, ?_⟩))
  dsimp only
  refine wpS_bind (wpS_elem h0a' ?_)
  by_cases e1 : a.size - 1 = 0
  · rw [if_pos (by simpa using e1)]
    exact wpS_pure (h _ _ (Sm.refl _) (m1.done ha hb (.inl e1)))
  rw [if_neg (by simpa using e1)]
  by_cases e2 : b.size = 1
  · rw [if_pos (by simpa using e2)]
    refine wpS_pure (h _ _ (Sm.refl _) (m1.first ha hb fun i j _ hi hj _ => ?_))
    rw [show j = 0 by omega]; exact hfirst i hi
  rw [if_neg (by simpa using e2)]
  refine wpS_bind (wpS_get ?_)
  refine wpS_bind (wpS_mono (wpS_forRange
    (I := fun x c st' => Sm st st' ∧ ∃ out na nb g, c = (none, na, nb, out, g) ∧ 1 ≤ na ∧ 2 ≤ nb ∧ na ≤ a.size ∧ nb ≤ b.size ∧ x + 1 + na + nb ≤ a.size + b.size ∧ MH a b out na nb)
    (Q := fun c st' => Sm st st' ∧ ∃ r rest, c = (some r, rest) ∧ MR a b r) ?step ?fin ⟨Sm.refl _, _, a.size - 1, b.size, _, rfl, by omega, by omega, by omega, by omega, (by omega : 0 + 1 + (a.size - 1) + b.size ≤ a.size + b.size), m1⟩) ?post)
  case fin =>
    rintro c st' ⟨_, out, na, nb, g, rfl, h1, h2, h3, h4, h5, _⟩
    omega
  case post =>
    rintro c st' ⟨hsm, r, rest, rfl, hr⟩
    exact wpS_pure (h r st' hsm hr)
  case step =>
    rintro x c st' _ hx ⟨hsm, out, na, nb, g, rfl, h1, h2, h3, h4, h5, hm⟩
    dsimp only
    refine wpS_bind (wpS_mono (wpS_forRange
      (I := fun y c st'' => st'' = st' ∧ ∃ out na nb u v, c = (none, na, nb, out, u, v) ∧ 1 ≤ na ∧ 2 ≤ nb ∧ na ≤ a.size ∧ nb ≤ b.size ∧ x + 1 + y + na + nb ≤ a.size + b.size ∧ MH a b out na nb)
      (Q := fun c st'' => st'' = st' ∧ ((∃ r rest, c = (some r, rest) ∧ MR a b r) ∨
        ∃ out na nb u v, c = (none, na, nb, out, u, v) ∧ 1 ≤ na ∧ 2 ≤ nb ∧ na ≤ a.size ∧ nb ≤ b.size ∧ x + 2 + na + nb ≤ a.size + b.size ∧ MH a b out na nb)) ?step1 ?fin1 ⟨rfl, out, na, nb, 0, 0, rfl, h1, h2, h3, h4, h5, hm⟩) ?post1)
    case fin1 =>
      rintro c st'' ⟨rfl, out, na, nb, u, v, rfl, h1, h2, h3, h4, h5, hm⟩
      exfalso; omega
    case step1 =>
      rintro y c st'' _ hy ⟨rfl, out, na, nb, u, v, rfl, h1, h2, h3, h4, h5, hm⟩
      dsimp only
      have ga : na - 1 < a.size := by omega
      have gb : nb - 1 < b.size := by omega
      refine wpS_bind (wpS_elem gb ?_)
      refine wpS_bind (wpS_elem ga ?_)
      refine wpS_bind (wpS_lt (hsm.kind.trans hk) (ib _ (by simp)) (ia _ (by simp)) ?_)
      rw [← K_lt gb, ← K_lt ga]
      dsimp only
      by_cases hw : K b (nb - 1) < K a (na - 1)
      · simp only [hw, decide_true, if_true]
        refine wpS_bind (wpS_elem ga ?_)
        have hm' := hm.pushA ha h1 ga fun l hl1 hl2 => by have := hb l (nb - 1) (by omega) gb; omega
        by_cases e3 : na - 1 = 0
        · rw [if_pos (by simpa using e3)]
          exact wpS_pure ⟨rfl, .inl ⟨_, _, rfl, hm'.done ha hb (.inl e3)⟩⟩
        · rw [if_neg (by simpa using e3)]
          split
          · exact wpS_pure ⟨rfl, .inr ⟨_, na - 1, nb, _, _, rfl, by omega, h2, by omega, by omega, by omega, hm'⟩⟩
          · exact wpS_pure ⟨rfl, _, na - 1, nb, _, _, rfl, by omega, h2, by omega, by omega, by omega, hm'⟩
      · simp only [hw, decide_false, Bool.false_eq_true, if_false]
        refine wpS_bind (wpS_elem gb ?_)
        have hm' := hm.pushB hb (by omega) gb fun l hl1 hl2 => by have := ha l (na - 1) (by omega) ga; omega
        by_cases e3 : nb - 1 = 1
        · rw [if_pos (by simpa using e3)]
          refine wpS_pure ⟨rfl, .inl ⟨_, _, rfl, hm'.first ha hb fun i j _ hi hj _ => ?_⟩⟩
          rw [show j = 0 by omega]; exact hfirst i hi
        · rw [if_neg (by simpa using e3)]
          split
          · exact wpS_pure ⟨rfl, .inr ⟨_, na, nb - 1, _, _, rfl, h1, by omega, by omega, by omega, by omega, hm'⟩⟩
          · exact wpS_pure ⟨rfl, _, na, nb - 1, _, _, rfl, h1, by omega, by omega, by omega, by omega, hm'⟩
    case post1 =>
      rintro c st'' ⟨rfl, ⟨r, rest, rfl, hr⟩ | ⟨out, na, nb, u, v, rfl, h1, h2, h3, h4, h5, hm⟩⟩
      · exact wpS_pure ⟨hsm, r, _, rfl, hr⟩
      dsimp only
      refine wpS_bind (wpS_lift (wpAny_rule ⟨rfl, ?_⟩))
      refine wpS_bind (wpS_mono (wpS_forRange
        (I := fun y c st2 => Sm st st2 ∧ ∃ out na nb g u v, c = (none, na, nb, out, g, u, v) ∧ 1 ≤ na ∧ 2 ≤ nb ∧ na ≤ a.size ∧ nb ≤ b.size ∧ x + 2 + y + na + nb ≤ a.size + b.size ∧ MH a b out na nb)
        (Q := fun c st2 => Sm st st2 ∧ ((∃ r rest, c = (some r, rest) ∧ MR a b r) ∨
          ∃ out na nb g u v, c = (none, na, nb, out, g, u, v) ∧ 1 ≤ na ∧ 2 ≤ nb ∧ na ≤ a.size ∧ nb ≤ b.size ∧ x + 2 + na + nb ≤ a.size + b.size ∧ MH a b out na nb)) ?step2 ?fin2 ⟨hsm, out, na, nb, _, u, v, rfl, h1, h2, h3, h4, h5, hm⟩) ?post2)
      case fin2 =>
        rintro c st2 ⟨_, out, na, nb, g, u, v, rfl, h1, h2, h3, h4, h5, hm⟩
        exfalso; omega
      case post2 =>
        rintro c st2 ⟨hsm2, ⟨r, rest, rfl, hr⟩ | ⟨out, na, nb, g, u, v, rfl, h1, h2, h3, h4, h5, hm⟩⟩
        · exact wpS_pure ⟨hsm2, r, _, rfl, hr⟩
        · dsimp only
          refine wpS_bind (wpS_setMin fun st3 h3' => wpS_pure ⟨hsm2.trans h3', out, na, nb, _, rfl, h1, h2, h3, h4, by omega, hm⟩)
      case step2 =>
        rintro y c st2 _ hy ⟨hsm2, out, na, nb, g, u, v, rfl, h1, h2, h3, h4, h5, hm⟩
        dsimp only
        refine' wpS_iteP ?hx ?hy ?hp
        case hx => intro hP; generalize g - 1 = gm; revert gm; exact hP
        case hy => intro hP; exact hP g
        case hp =>
        intro g'
        refine wpS_bind (wpS_setMin fun st3 hs3 => ?_)
        have hsm3 := hsm2.trans hs3
        have gb : nb - 1 < b.size := by omega
        refine wpS_bind (wpS_elem gb ?_)
        refine wpS_bind (wpS_gallop (hsm3.kind.trans hk) (ib _ (by simp)) ia (by omega) (fun i j hij hj => ha _ _ (by omega) (by omega)) (by omega) fun k hk1 hk2 hk3 => ?_)
        simp only [Bool.false_eq_true, if_false, Nat.zero_add] at hk2 hk3
        rw [← K_lt gb] at hk2 hk3
        dsimp only
        have hm1 : MH a b (out ++ (a.extract k na).reverse) k nb := hm.runA ha hk1 fun j hj1 hj2 hj3 l hl1 hl2 => by have := hk3 j hj1 hj2; have := hb l (nb - 1) (by omega) gb; omega
        have hgX1 : ∀ l, l < k → l < a.size → K a l ≤ K b (nb - 1) := fun l hl _ => hk2 l hl
        have hpX : x + 2 + y + k + nb ≤ a.size + b.size := by omega
        have hX2 : k ≤ a.size := by omega
        have hk00 : ¬ na - k > 0 → na = k := by omega
        clear hk1 hk2 hk3
        generalize na - k = cn at hk00 ⊢
        refine' wpS_iteP' ?hx ?hy ?hp
        case hx =>
          intro _
          by_cases e3 : k = 0
          · rw [if_pos (by simpa using e3)]
            exact fun _ => wpS_pure ⟨hsm3, .inl ⟨_, _, rfl, hm1.done ha hb (.inl e3)⟩⟩
          rw [if_neg (by simpa using e3)]
          have hX1 : 1 ≤ k := by omega
          intro hP
          have hall := And.intro hm1 (And.intro hgX1 (And.intro hpX (And.intro hX1 hX2)))
          revert hall
          generalize out ++ (a.extract k na).reverse = O1
          generalize k = J1
          revert J1 O1
          exact hP
        case hy =>
          intro e0 hP
          have e := hk00 e0
          exact hP _ _ ⟨hm, fun l hl hl' => hgX1 l (e ▸ hl) hl', h5, h1, h3⟩
        case hp =>
        clear hm1 hgX1 hpX hX2 hk00 hm h1 h3 h5
        rintro out na ⟨hm, hgX, hpX, hX1, hX2⟩
        refine wpS_bind (wpS_elem gb ?_)
        have hm2 := hm.pushB hb (by omega) gb hgX
        by_cases e5 : nb - 1 = 1
        · rw [if_pos (by simpa using e5)]
          refine wpS_pure ⟨hsm3, .inl ⟨_, _, rfl, hm2.first ha hb fun i j _ hi hj _ => ?_⟩⟩
          rw [show j = 0 by omega]; exact hfirst i hi
        rw [if_neg (by simpa using e5)]
        have hJ' := Nat.lt_of_lt_of_le (Nat.sub_lt hX1 Nat.one_pos) hX2
        refine wpS_bind (wpS_elem hJ' ?_)
        refine wpS_bind (wpS_gallop (hsm3.kind.trans hk) (ia _ (by simp)) ib (by omega) (fun i j hij hj => hb _ _ (by omega) (by omega)) (by omega) fun k2 hq1 hq2 hq3 => ?_)
        simp only [if_true, Nat.zero_add] at hq2 hq3
        rw [← K_lt hJ'] at hq2 hq3
        dsimp only
        have hm3 := hm2.runB (i := k2) hb hq1 fun j hj1 hj2 hj3 l hl1 hl2 => by have := hq3 j hj1 hj2; have := ha l _ (Nat.le_sub_one_of_lt hl1) hJ'; omega
        have hgY : ∀ l, l < k2 → l < b.size → K b l ≤ K a (na - 1) := fun l hl _ => Int.le_of_lt (hq2 l hl)
        have hp2 : x + 2 + y + 1 + na + k2 ≤ a.size + b.size := by omega
        have hpY : x + 2 + y + 1 + na + (nb - 1) ≤ a.size + b.size := by omega
        have hB2 : k2 ≤ b.size := by omega
        have hB0 : 2 ≤ nb - 1 := by omega
        have hk0 : ¬ nb - 1 - k2 > 0 → nb - 1 = k2 := by omega
        clear hq1 hq2 hq3 hpX
        generalize nb - 1 - k2 = cm at hk0 ⊢
        generalize out.push b[nb - 1] = O0 at hm2 hm3 ⊢
        refine' wpS_iteP' ?hx ?hy ?hp
        case hx =>
          intro _
          by_cases e6 : k2 = 1
          · rw [if_pos (by simpa using e6)]
            refine fun _ => wpS_pure ⟨hsm3, .inl ⟨_, _, rfl, hm3.first ha hb fun i j _ hi hj _ => ?_⟩⟩
            rw [show j = 0 by omega]; exact hfirst i hi
          rw [if_neg (by simpa using e6)]
          by_cases e7 : k2 = 0
          · rw [if_pos (by simpa using e7)]
            exact fun _ => wpS_pure ⟨hsm3, .inl ⟨_, _, rfl, hm3.done ha hb (.inr e7)⟩⟩
          rw [if_neg (by simpa using e7)]
          have hB1 : 2 ≤ k2 := by omega
          intro hP
          have hall := And.intro hm3 (And.intro hgY (And.intro hp2 (And.intro hB1 hB2)))
          revert hall
          generalize O0 ++ (b.extract k2 (nb - 1)).reverse = O1
          generalize k2 = B1
          revert B1 O1
          exact hP
        case hy =>
          intro e0 hP
          have e := hk0 e0
          exact hP _ _ ⟨hm2, fun l hl hl' => hgY l (e ▸ hl) hl', hpY, hB0, Nat.le_of_lt gb⟩
        case hp =>
        clear hm2 hm3 hgY hp2 hpY hB2 hB0 hk0
        rintro O B ⟨hmY, hgY, hpY, hB1, hB2⟩
        refine wpS_bind (wpS_elem hJ' ?_)
        have hm4 := hmY.pushA ha hX1 hJ' hgY
        split
        case isTrue e8 =>
          exact wpS_pure ⟨hsm3, .inl ⟨_, _, rfl, hm4.done ha hb (.inl (by simpa using e8))⟩⟩
        case isFalse e8 =>
          have e8' := of_decide_eq_false (Bool.eq_false_iff.mpr e8)
          split
          · exact wpS_pure ⟨hsm3, .inr ⟨_, _, _, _, _, _, rfl, by omega, hB1, by omega, hB2, by omega, hm4⟩⟩
          · exact wpS_pure ⟨hsm3, _, _, _, _, _, _, rfl, by omega, hB1, by omega, hB2, by omega, hm4⟩
end
end Mine
end

section
open PySem PySem.W PyProof.Rows PySem.Calls PySem.Spec
set_option maxRecDepth 100000
namespace Mine
local macro_rules | `(tactic| walk_at "km un mergeAt") => `(tactic| (unfold PyProof.Rows.mergeAt'; delta $(Lean.mkIdent (Lean.mkPrivateNameCore `PySem.Builtin.List.W1All `PySem.Builtin.mergeAt)):ident))

def paste (xs : Array Keyed) (base : Nat) (l : List Keyed) : Array Keyed := l.zipIdx.foldl (fun a x => match x with | (p, j) => a.setIfInBounds (base + j) p) xs

theorem paste_from (base : Nat) : ∀ (l : List Keyed) (n : Nat) (xs : Array Keyed), base + n + l.length ≤ xs.size →
    ((l.zipIdx n).foldl (fun a x => match x with | (p, j) => a.setIfInBounds (base + j) p) xs).size = xs.size ∧
    ∀ k : Nat, ((l.zipIdx n).foldl (fun a x => match x with | (p, j) => a.setIfInBounds (base + j) p) xs)[k]? = if base + n ≤ k ∧ k < base + n + l.length then l[k - base - n]? else xs[k]?
  | [], n, xs, _ => ⟨rfl, fun k => by
    rw [if_neg (by simp only [List.length_nil]; omega)]; rfl⟩
  | p :: l, n, xs, h => by
    have h' : base + (n + 1) + l.length ≤ (xs.setIfInBounds (base + n) p).size := by rw [Array.size_setIfInBounds]; simp at h; omega
    obtain ⟨e1, e2⟩ := paste_from base l (n + 1) (xs.setIfInBounds (base + n) p) h'
    rw [List.zipIdx_cons]
    refine ⟨by rw [List.foldl_cons]; exact e1.trans (Array.size_setIfInBounds ..), fun k => ?_⟩
    rw [List.foldl_cons]
    refine (e2 k).trans ?_
    have hl : (p :: l).length = l.length + 1 := rfl
    rw [hl] at h ⊢
    by_cases h1 : k = base + n
    · rw [if_neg (by omega), if_pos (by omega), Array.getElem?_setIfInBounds, if_pos h1.symm, if_pos (by omega), show k - base - n = 0 by omega]
      rfl
    · by_cases h2 : base + (n + 1) ≤ k ∧ k < base + (n + 1) + l.length
      · rw [if_pos h2, if_pos (by omega), show k - base - n = (k - base - (n + 1)) + 1 by omega]
        rfl
      · rw [if_neg h2, if_neg (by omega), Array.getElem?_setIfInBounds, if_neg (by omega)]

theorem paste_size {xs : Array Keyed} {base : Nat} {l : List Keyed} (h : base + l.length ≤ xs.size) : (paste xs base l).size = xs.size := (paste_from base l 0 xs (by omega)).1
theorem paste_at {xs : Array Keyed} {base : Nat} {l : List Keyed} (h : base + l.length ≤ xs.size) (k : Nat) : (paste xs base l)[k]? = if base ≤ k ∧ k < base + l.length then l[k - base]? else xs[k]? := by
  have := (paste_from base l 0 xs (by omega)).2 k
  simp only [Nat.add_zero, Nat.sub_zero] at this
  exact this

theorem paste_toList {xs : Array Keyed} {base : Nat} {l : List Keyed} (h : base + l.length ≤ xs.size) : (paste xs base l).toList = xs.toList.take base ++ l ++ xs.toList.drop (base + l.length) := by
  apply List.ext_getElem?
  intro k
  rw [Array.getElem?_toList, paste_at h]
  rw [List.append_assoc, List.getElem?_append, List.getElem?_append]
  have hl : (xs.toList.take base).length = base := by simp; omega
  rw [hl]
  by_cases h1 : k < base
  · rw [if_neg (by omega), if_pos h1, List.getElem?_take, if_pos h1, Array.getElem?_toList]
  · rw [if_neg h1]
    by_cases h2 : k < base + l.length
    · rw [if_pos (by omega), if_pos (by omega)]
    · rw [if_neg (by omega), if_neg (by omega), List.getElem?_drop, Array.getElem?_toList]
      congr 1; omega

theorem paste_perm {xs : Array Keyed} {base : Nat} {l : List Keyed} (h : base + l.length ≤ xs.size) (hp : l.Perm ((xs.toList.drop base).take l.length)) : (paste xs base l).Perm xs := by
  rw [Array.perm_iff_toList_perm, paste_toList h]
  have e : xs.toList = xs.toList.take base ++ (xs.toList.drop base).take l.length ++ xs.toList.drop (base + l.length) := by
    rw [List.append_assoc, ← List.drop_drop, List.take_append_drop, List.take_append_drop]
  exact List.Perm.trans (List.Perm.append_right _ (List.Perm.append_left _ hp)) (by rw [← e])

abbrev SOn (xs : Array Keyed) (lo hi : Nat) : Prop := ∀ i j, lo ≤ i → i ≤ j → j < hi → K xs i ≤ K xs j

structure SB (a₀ : Array Keyed) (st : SortSt) : Prop where
  perm : (arrOf st).Perm a₀
  kind : kindOf st = oneType'
  failed : failedOf st = none

theorem SB.size {a₀ : Array Keyed} {st : SortSt} (h : SB a₀ st) : (arrOf st).size = a₀.size := h.perm.size_eq
theorem SB.ints {a₀ : Array Keyed} {st : SortSt} (h : SB a₀ st) (h0 : IntKeys a₀) : ∀ p ∈ (arrOf st).toList, IsI p := fun p hp => h0 p ((Array.perm_iff_toList_perm.mp h.perm).mem_iff.mp hp)

theorem K_ext {xs : Array Keyed} {lo hi i : Nat} (h : hi ≤ xs.size) (hi' : lo + i < hi) : K (xs.extract lo hi) i = K xs (lo + i) := by
  refine K_congr ?_
  rw [Array.getElem?_extract, if_pos (by omega)]

theorem ints_ext {xs : Array Keyed} {lo hi : Nat} (h : ∀ p ∈ xs.toList, IsI p) : ∀ p ∈ (xs.extract lo hi).toList, IsI p := fun p hp => by
  refine h p ?_
  have : p ∈ ((xs.toList.drop lo).take (hi - lo)) := by simpa using hp
  exact List.mem_of_mem_drop (List.mem_of_mem_take this)

section
variable {prog : Program} {w : World} {A : Around} {E : Value → Shared → Prop} {s : Shared} {a₀ : Array Keyed}
theorem wpS_set {σ : Type} {M : Model} {st st' : σ} {Q : PUnit → σ → Prop} (P : σ → Prop) (h1 : P st') (h : ∀ x, P x → Q ⟨⟩ x) : wpS M A E s (set st' : StateT σ Sem PUnit) Q st := by
  unfold wpS; rw [StateT.run_set]; exact wpAny_pure ⟨rfl, h _ h1⟩
theorem wpS_modify' {σ : Type} {M : Model} {f : σ → σ} {st : σ} {Q : PUnit → σ → Prop} (P : σ → Prop) (h1 : P (f st)) (h : ∀ x, P x → Q ⟨⟩ x) : wpS M A E s (modify f : StateT σ Sem PUnit) Q st :=
  wpS_modify (h _ h1)

theorem wpS_mergeAt {st : SortSt} {i : Nat} {pre post : List (Nat × Nat × Nat)} {sa na pw sb nb pw2 : Nat} {Q : Bool → SortSt → Prop} (h0 : IntKeys a₀) (hB : SB a₀ st)
    (hp : pendingOf st = (pre ++ (sa, na, pw) :: (sb, nb, pw2) :: post).toArray) (hi : i = pre.length) (hsb : sb = sa + na) (hna : 1 ≤ na) (hnb : 1 ≤ nb) (hfit : sb + nb ≤ a₀.size)
    (s1 : SOn (arrOf st) sa sb) (s2 : SOn (arrOf st) sb (sb + nb))
    (h : ∀ st', SB a₀ st' → pendingOf st' = (pre ++ (sa, na + nb, pw) :: post).toArray → SOn (arrOf st') sa (sb + nb) → (∀ k, k < sa ∨ sb + nb ≤ k → K (arrOf st') k = K (arrOf st) k) → Q true st') :
    wpS (model prog w) A E s (PyProof.Rows.mergeAt' i) Q st := by
  have e1 : (pendingOf st)[i]? = some (sa, na, pw) := by rw [hp, hi]; simp
  have e2 : (pendingOf st)[i + 1]? = some (sb, nb, pw2) := by rw [hp, hi]; simp
  have e3 : ((pendingOf st).setIfInBounds i (sa, na + nb, pw)).eraseIdxIfInBounds (i + 1) = (pre ++ (sa, na + nb, pw) :: post).toArray := by
    rw [hp, hi]
    apply Array.toList_inj.mp
    simp [List.eraseIdx_append_of_length_le]
  have hsz := hB.size
  have hI := hB.ints h0
  walk_at "km un mergeAt"
  refine wpS_bind (wpS_get ?_)
  rw [e1, e2]
  dsimp only
  rw [e3]
  refine wpS_bind (wpS_set (fun x => SB a₀ x ∧ pendingOf x = (pre ++ (sa, na + nb, pw) :: post).toArray ∧ arrOf x = arrOf st) ⟨⟨hB.perm, hB.kind, hB.failed⟩, rfl, rfl⟩ ?_)
  rintro st1 ⟨hB1, hp1, ha1⟩
  have gsb : sb < (arrOf st).size := by omega
  refine wpS_bind (wpS_elem gsb ?_)
  refine wpS_bind (wpS_gallop hB1.kind (hI _ (by simp)) hI (show sa + na ≤ (arrOf st).size by omega) (fun i j hij hj => s1 (sa + i) (sa + j) (by omega) (by omega) (by omega)) (by omega) fun k hk1 hk2 hk3 => ?_)
  simp only [Bool.false_eq_true, if_false] at hk2 hk3
  rw [← K_lt gsb] at hk2 hk3
  replace hk2 : ∀ i, i < k → K (arrOf st) (sa + i) ≤ K (arrOf st) sb := hk2
  replace hk3 : ∀ i, k ≤ i → i < na → K (arrOf st) sb < K (arrOf st) (sa + i) := hk3
  dsimp only
  have hlow : ∀ i, sa ≤ i → i < sa + k → ∀ j, sb ≤ j → j < sb + nb → K (arrOf st) i ≤ K (arrOf st) j := fun i h1 h2 j h3 h4 => by
    have h5 := hk2 (i - sa) (by omega)
    rw [show sa + (i - sa) = i by omega] at h5
    have h6 := s2 sb j (by omega) h3 h4
    omega
  by_cases ek : na - k = 0
  · rw [if_pos (by simpa using ek)]
    refine wpS_pure (h _ hB1 hp1 (fun i j hi hij hj => ?_) fun x _ => by rw [ha1])
    rw [ha1]
    by_cases c1 : j < sb
    · exact s1 i j hi hij c1
    · by_cases c2 : i < sb
      · exact hlow i hi (by omega) j (by omega) hj
      · exact s2 i j (by omega) hij hj
  rw [if_neg (by simpa using ek)]
  have gla : sa + k + (na - k) - 1 < (arrOf st).size := by omega
  have ela : sa + k + (na - k) - 1 = sb - 1 := by omega
  refine wpS_bind (wpS_elem gla ?_)
  refine wpS_bind (wpS_gallop hB1.kind (hI _ (by simp)) hI (show sb + nb ≤ (arrOf st).size by omega) (fun i j hij hj => s2 (sb + i) (sb + j) (by omega) (by omega) (by omega)) (by omega) fun m hm1 hm2 hm3 => ?_)
  simp only [if_true] at hm2 hm3
  rw [← K_lt gla, ela] at hm2 hm3
  replace hm2 : ∀ i, i < m → K (arrOf st) (sb + i) < K (arrOf st) (sb - 1) := hm2
  replace hm3 : ∀ i, m ≤ i → i < nb → K (arrOf st) (sb - 1) ≤ K (arrOf st) (sb + i) := hm3
  dsimp only
  have hhigh : ∀ j, sb + m ≤ j → j < sb + nb → ∀ i, sa ≤ i → i < sb → K (arrOf st) i ≤ K (arrOf st) j := fun j h1 h2 i h3 h4 => by
    have h5 := hm3 (j - sb) (by omega) (by omega)
    rw [show sb + (j - sb) = j by omega] at h5
    have h6 := s1 i (sb - 1) h3 (by omega) (by omega)
    omega
  by_cases em : m = 0
  · rw [if_pos (by simpa using em)]
    refine wpS_pure (h _ hB1 hp1 (fun i j hi hij hj => ?_) fun x _ => by rw [ha1])
    rw [ha1]
    by_cases c1 : j < sb
    · exact s1 i j hi hij c1
    · by_cases c2 : i < sb
      · exact hhigh j (by omega) hj i hi c2
      · exact s2 i j (by omega) hij hj
  rw [if_neg (by simpa using em)]
  have hsx : ((arrOf st).extract (sa + k) sb).size = na - k := by rw [Array.size_extract]; omega
  have hsy : ((arrOf st).extract sb (sb + m)).size = m := by rw [Array.size_extract]; omega
  have hKx : ∀ i, i < na - k → K ((arrOf st).extract (sa + k) sb) i = K (arrOf st) (sa + k + i) := fun i hi => K_ext (by omega) (by omega)
  have hKy : ∀ i, i < m → K ((arrOf st).extract sb (sb + m)) i = K (arrOf st) (sb + i) := fun i hi => K_ext (by omega) (by omega)
  have hSx : Srt ((arrOf st).extract (sa + k) sb) := fun i j hij hj => by
    rw [hsx] at hj; rw [hKx i (by omega), hKx j hj]; exact s1 _ _ (by omega) (by omega) (by omega)
  have hSy : Srt ((arrOf st).extract sb (sb + m)) := fun i j hij hj => by
    rw [hsy] at hj; rw [hKy i (by omega), hKy j hj]; exact s2 _ _ (by omega) (by omega) (by omega)
  have hf : ∀ i, i < ((arrOf st).extract (sa + k) sb).size → K ((arrOf st).extract sb (sb + m)) 0 ≤ K ((arrOf st).extract (sa + k) sb) i := fun i hi => by
    rw [hsx] at hi; rw [hKx i hi, hKy 0 (by omega)]
    have := hk3 (k + i) (by omega) (by omega)
    rw [← Nat.add_assoc] at this
    exact Int.le_of_lt this
  have hl : ∀ j, j < ((arrOf st).extract sb (sb + m)).size → K ((arrOf st).extract sb (sb + m)) j < K ((arrOf st).extract (sa + k) sb) (((arrOf st).extract (sa + k) sb).size - 1) := fun j hj => by
    rw [hsy] at hj; rw [hsx, hKx _ (by omega), hKy j hj]
    have := hm2 j hj
    rw [show sa + k + (na - k - 1) = sb - 1 by omega]
    exact this
  have fin : ∀ r st2, Sm st1 st2 → MR ((arrOf st).extract (sa + k) sb) ((arrOf st).extract sb (sb + m)) r → ∀ st3 : SortSt, PyProof.Rows.kindOf st3 = PyProof.Rows.kindOf st2 → arrOf st3 = paste (arrOf st2) (sa + k) r.toList → pendingOf st3 = pendingOf st2 → failedOf st3 = failedOf st2 →
      Q (failedOf st3).isNone st3 := by
    rintro r st2 hsm ⟨hr1, hr2⟩ st3 q1 q2 q3 q4
    have hlen : r.toList.length = na - k + m := by
      rw [hr1.length_eq, List.length_append, Array.length_toList, Array.length_toList, hsx, hsy]
    have hrs : r.size = na - k + m := by rw [← Array.length_toList]; exact hlen
    have ha3 : arrOf st3 = paste (arrOf st) (sa + k) r.toList := by rw [q2, hsm.arr, ha1]
    have hb : sa + k + r.toList.length ≤ (arrOf st).size := by rw [hlen]; omega
    have hseg : ((arrOf st).toList.drop (sa + k)).take r.toList.length = ((arrOf st).extract (sa + k) sb).toList ++ ((arrOf st).extract sb (sb + m)).toList := by
      rw [hlen]
      have x1 : sb = sa + k + (na - k) := by omega
      have x2 : ((arrOf st).extract (sa + k) sb).toList = ((arrOf st).toList.drop (sa + k)).take (na - k) := by rw [x1]; exact ext_toList _ _ _
      rw [x2, ext_toList, List.take_add, List.drop_drop]
      rw [← x1]
    have hB3 : SB a₀ st3 := by
      refine ⟨?_, by rw [q1, hsm.kind]; exact hB1.kind, by rw [q4, hsm.failed]; exact hB1.failed⟩
      rw [ha3]
      exact (paste_perm hb (by rw [hseg]; exact hr1)).trans hB.perm
    have hin : ∀ p, sa + k ≤ p → p < sb + m → K (arrOf st3) p = K r (p - (sa + k)) ∧ ∃ q, sa + k ≤ q ∧ q < sb + m ∧ K (arrOf st3) p = K (arrOf st) q := fun p h1 h2 => by
      have e : K (arrOf st3) p = K r (p - (sa + k)) := by
        rw [ha3]
        refine K_congr ?_
        rw [paste_at hb, if_pos (by rw [hlen]; omega), Array.getElem?_toList]
      refine ⟨e, ?_⟩
      have hg : p - (sa + k) < r.size := by rw [hrs]; omega
      have hmem : r[p - (sa + k)] ∈ ((arrOf st).extract (sa + k) sb).toList ++ ((arrOf st).extract sb (sb + m)).toList := hr1.mem_iff.mp (by simp)
      rcases List.mem_append.mp hmem with hmem | hmem
      · obtain ⟨j, j1, j2, j3, j4⟩ := mem_ext_K hmem
        exact ⟨j, by omega, by omega, by rw [e, K_lt hg]; exact j4⟩
      · obtain ⟨j, j1, j2, j3, j4⟩ := mem_ext_K hmem
        exact ⟨j, by omega, by omega, by rw [e, K_lt hg]; exact j4⟩
    have hout : ∀ p, p < sa + k ∨ sb + m ≤ p → K (arrOf st3) p = K (arrOf st) p := fun p hp => by
      rw [ha3]
      refine K_congr ?_
      rw [paste_at hb, if_neg (by rw [hlen]; omega)]
    have hn : (failedOf st3).isNone = true := by rw [hB3.failed]; rfl
    rw [hn]
    refine h st3 hB3 (by rw [q3, hsm.pend, hp1]) (fun i j hi hij hj => ?_) fun p hp => hout p (by omega)
    have lowq : ∀ i, sa ≤ i → i < sa + k → ∀ q, sa + k ≤ q → q < sb + nb → K (arrOf st) i ≤ K (arrOf st) q := fun i h1 h2 q h3 h4 => by
      by_cases c : q < sb
      · exact s1 i q h1 (by omega) c
      · exact hlow i h1 h2 q (by omega) h4
    have highq : ∀ j, sb + m ≤ j → j < sb + nb → ∀ q, sa ≤ q → q < sb + m → K (arrOf st) q ≤ K (arrOf st) j := fun j h1 h2 q h3 h4 => by
      by_cases c : q < sb
      · exact hhigh j h1 h2 q h3 c
      · exact s2 q j (by omega) (by omega) h2
    by_cases c1 : i < sa + k
    · rw [hout i (.inl c1)]
      by_cases c2 : j < sa + k
      · rw [hout j (.inl c2)]; exact s1 i j hi hij (by omega)
      · by_cases c3 : j < sb + m
        · obtain ⟨_, q, g1, g2, g3⟩ := hin j (by omega) c3
          rw [g3]; exact lowq i hi c1 q g1 (by omega)
        · rw [hout j (.inr (by omega))]; exact lowq i hi c1 j (by omega) hj
    · by_cases c3 : i < sb + m
      · obtain ⟨e, q, g1, g2, g3⟩ := hin i (by omega) c3
        by_cases c4 : j < sb + m
        · obtain ⟨e', _⟩ := hin j (by omega) c4
          rw [e, e']
          exact hr2 _ _ (by omega) (by rw [hrs]; omega)
        · rw [hout j (.inr (by omega)), g3]
          exact highq j (by omega) hj q (by omega) g2
      · rw [hout i (.inr (by omega)), hout j (.inr (by omega))]
        exact s2 i j (by omega) hij hj
  by_cases hle : na - k ≤ m
  · rw [if_pos hle]
    refine wpS_bind (wpS_mergeLo hB1.kind (ints_ext hI) (ints_ext hI) hSx hSy (by rw [hsx]; omega) (by rw [hsy]; omega) hf hl fun r st2 hsm hr => ?_)
    refine wpS_bind (wpS_modify ?_)
    refine wpS_bind (wpS_get (wpS_pure ?_))
    exact fin r st2 hsm hr _ rfl rfl rfl rfl
  · rw [if_neg hle]
    refine wpS_bind (wpS_mergeHi hB1.kind (ints_ext hI) (ints_ext hI) hSx hSy (by rw [hsx]; omega) (by rw [hsy]; omega) hf hl fun r st2 hsm hr => ?_)
    refine wpS_bind (wpS_modify ?_)
    refine wpS_bind (wpS_get (wpS_pure ?_))
    exact fin r st2 hsm hr _ rfl rfl rfl rfl
end
end Mine
end

section
open PySem PySem.W PyProof.Rows PySem.Calls PySem.Spec
set_option maxRecDepth 100000
namespace Mine
local macro_rules | `(tactic| walk_at "km un countRun") => `(tactic| (unfold PyProof.Rows.countRun'; delta $(Lean.mkIdent (Lean.mkPrivateNameCore `PySem.Builtin.List.W1All `PySem.Builtin.countRun)):ident))

structure Go (a₀ : Array Keyed) (lo : Nat) (st st' : SortSt) : Prop where
  sb : SB a₀ st'
  pend : pendingOf st' = pendingOf st
  below : ∀ k, k < lo → K (arrOf st') k = K (arrOf st) k
theorem Go.refl {a₀ : Array Keyed} {lo : Nat} {st : SortSt} (h : SB a₀ st) : Go a₀ lo st st := ⟨h, rfl, fun _ _ => rfl⟩
theorem Go.trans {a₀ : Array Keyed} {lo : Nat} {a b c : SortSt} (h : Go a₀ lo a b) (h' : Go a₀ lo b c) : Go a₀ lo a c := ⟨h'.sb, h'.pend.trans h.pend, fun k hk => (h'.below k hk).trans (h.below k hk)⟩

abbrev NOn (xs : Array Keyed) (lo hi : Nat) : Prop := ∀ i j, lo ≤ i → i ≤ j → j < hi → K xs j ≤ K xs i

theorem Go.mirror {a₀ : Array Keyed} {lo : Nat} {st st' : SortSt} (h : Go a₀ lo st st') {i j : Nat} (hi : lo ≤ i) (hj : j ≤ a₀.size) : Go a₀ lo st (setArr st' (mirror (arrOf st') i j ((j - i) / 2))) := by
  refine ⟨⟨(mirror_perm _ _ _ _).trans h.sb.perm, h.sb.kind, h.sb.failed⟩, h.pend, fun k hk => ?_⟩
  have e := K_mirror (xs := arrOf st') (i := i) (j := j) (by rw [h.sb.size]; exact hj) k
  rw [if_neg (by omega)] at e
  exact e.trans (h.below k hk)

section
variable {prog : Program} {w : World} {A : Around} {E : Value → Shared → Prop} {s : Shared} {a₀ : Array Keyed}

theorem wpS_ltI {st : SortSt} {i j : Nat} {Q : Option Bool → SortSt → Prop} (hB : SB a₀ st) (h0 : IntKeys a₀) (hi : i < a₀.size) (hj : j < a₀.size)
    (h : Q (some (decide (K (arrOf st) i < K (arrOf st) j))) st) : wpS (model prog w) A E s (ltAt' i j) Q st := by
  have hi' : i < (arrOf st).size := by rw [hB.size]; exact hi
  have hj' : j < (arrOf st).size := by rw [hB.size]; exact hj
  rw [ltAt'_eq]
  refine wpS_bind (wpS_get ?_)
  refine wpS_bind (wpS_elem hi' (wpS_bind (wpS_elem hj' ?_)))
  refine wpS_lt hB.kind (hB.ints h0 _ (by simp)) (hB.ints h0 _ (by simp)) ?_
  rw [← K_lt hi', ← K_lt hj']
  exact h

theorem wpS_binary {st : SortSt} {lo n ok : Nat} {Q : Bool → SortSt → Prop} (h0 : IntKeys a₀) (hn : lo + n ≤ a₀.size) (hok : ok ≤ n) (hB : SB a₀ st) (hs : SOn (arrOf st) lo (lo + ok))
    (h : ∀ st', Go a₀ lo st st' → SOn (arrOf st') lo (lo + n) → Q true st') : wpS (model prog w) A E s (binarySort' lo n ok) Q st := by
  rw [binarySort'_eq]
  refine wpS_bind (wpS_mono (wpS_forRange (I := fun k c st' => c = (none, ()) ∧ Go a₀ lo st st' ∧ SOn (arrOf st') lo (lo + min k n))
    (Q := fun c st' => c = (none, ()) ∧ Go a₀ lo st st' ∧ SOn (arrOf st') lo (lo + n)) ?step ?fin ?init) ?post)
  case post =>
    rintro c st' ⟨rfl, hG, hs'⟩
    exact wpS_pure (h st' hG hs')
  case init =>
    refine ⟨rfl, Go.refl hB, fun i j hi hij hj => ?_⟩
    by_cases h1 : ok = 0
    · have : i = j := by omega
      subst this; exact Int.le_refl _
    · exact hs i j hi hij (by omega)
  case fin =>
    rintro c st' ⟨hc, hG, hs'⟩
    refine ⟨hc, hG, ?_⟩
    rwa [show min (max (max ok 1) n) n = n by omega] at hs'
  case step =>
    rintro k c st' hak hkn ⟨rfl, hG, hs'⟩
    rw [show min k n = k by omega] at hs'
    have hk : lo + k < a₀.size := by omega
    refine wpS_bind (wpS_mono (wpS_forRange (I := fun x c st'' => st'' = st' ∧ ∃ l r, c = (none, l, r) ∧ l ≤ r ∧ r ≤ k ∧ r - l ≤ k - x ∧
        (∀ i, i < l → K (arrOf st') (lo + i) ≤ K (arrOf st') (lo + k)) ∧ (∀ i, r ≤ i → i < k → K (arrOf st') (lo + k) < K (arrOf st') (lo + i)))
      (Q := fun c st'' => st'' = st' ∧ ∃ l r, c = (none, l, r) ∧ l ≤ k ∧
        (∀ i, i < l → K (arrOf st') (lo + i) ≤ K (arrOf st') (lo + k)) ∧ (∀ i, l ≤ i → i < k → K (arrOf st') (lo + k) < K (arrOf st') (lo + i))) ?istep ?ifin ?iinit) ?ipost)
    case iinit => exact ⟨rfl, 0, k, rfl, by omega, by omega, by omega, fun i hi => by omega, fun i h1 h2 => by omega⟩
    case ifin =>
      rintro c st'' ⟨rfl, l, r, rfl, hlr, hrk, hm, hlo, hhi⟩
      have : l = r := by omega
      subst this
      exact ⟨rfl, l, l, rfl, hrk, hlo, hhi⟩
    case istep =>
      rintro x c st'' _ hxk ⟨rfl, l, r, rfl, hlr, hrk, hm, hlo, hhi⟩
      dsimp only
      by_cases hge : l ≥ r
      · rw [if_pos hge]
        have : l = r := by omega
        subst this
        exact wpS_pure ⟨rfl, l, l, rfl, hrk, hlo, hhi⟩
      · rw [if_neg hge]
        refine wpS_bind (wpS_ltI hG.sb h0 hk (by omega) ?_)
        by_cases hless : K (arrOf st'') (lo + k) < K (arrOf st'') (lo + (l + r) / 2)
        · simp only [hless, decide_true, if_true]
          refine wpS_pure ⟨rfl, l, (l + r) / 2, rfl, by omega, by omega, by omega, hlo, fun i h1 h2 => ?_⟩
          exact Int.lt_of_lt_of_le hless (hs' _ _ (by omega) (by omega) (by omega))
        · simp only [hless, decide_false, Bool.false_eq_true, if_false]
          refine wpS_pure ⟨rfl, (l + r) / 2 + 1, r, rfl, by omega, by omega, by omega, fun i h1 => ?_, hhi⟩
          exact Int.le_trans (hs' (lo + i) (lo + (l + r) / 2) (by omega) (by omega) (by omega)) (Int.not_lt.mp hless)
    case ipost =>
      rintro c st'' ⟨rfl, l, r, rfl, hlk, hlo, hhi⟩
      dsimp only
      rw [moveDown'_eq]
      have hks : lo + k < (arrOf st'').size := by rw [hG.sb.size]; exact hk
      have hKb : ∀ p, K (bubble (arrOf st'') (lo + k) (lo + k - (lo + l))) p = if p = lo + l then K (arrOf st'') (lo + k) else if lo + l < p ∧ p ≤ lo + k then K (arrOf st'') (p - 1) else K (arrOf st'') p := fun p => by
        have := K_bubble hks (d := lo + k - (lo + l)) (by omega) p
        rwa [show lo + k - (lo + k - (lo + l)) = lo + l by omega] at this
      refine wpS_bind (wpS_modify (wpS_pure ⟨rfl, hG.trans ⟨⟨(bubble_perm _ _ _).trans hG.sb.perm, hG.sb.kind, hG.sb.failed⟩, rfl, fun p hp => ?_⟩, ?_⟩))
      · refine (hKb p).trans ?_
        rw [if_neg (by omega), if_neg (by omega)]
      · rw [show min (k + 1) n = k + 1 by omega]
        intro i j hi hij hj
        show K (bubble (arrOf st'') (lo + k) (lo + k - (lo + l))) i ≤ K (bubble (arrOf st'') (lo + k) (lo + k - (lo + l))) j
        rw [hKb, hKb]
        have hlo' : ∀ i, lo ≤ i → i < lo + l → K (arrOf st'') i ≤ K (arrOf st'') (lo + k) := fun i h1 h2 => by
          have := hlo (i - lo) (by omega)
          rwa [show lo + (i - lo) = i by omega] at this
        have hhi' : ∀ i, lo + l ≤ i → i < lo + k → K (arrOf st'') (lo + k) < K (arrOf st'') i := fun i h1 h2 => by
          have := hhi (i - lo) (by omega) (by omega)
          rwa [show lo + (i - lo) = i by omega] at this
        repeat' split
        all_goals first
          | (exfalso; omega)
          | exact Int.le_refl _
          | exact hlo' _ (by omega) (by omega)
          | exact Int.le_of_lt (hhi' _ (by omega) (by omega))
          | exact hs' _ _ (by omega) (by omega) (by omega)
end
end Mine
end

section
open PySem PySem.W PyProof.Rows PySem.Calls PySem.Spec
set_option maxRecDepth 100000
namespace Mine

section
variable {prog : Program} {w : World} {A : Around} {E : Value → Shared → Prop} {s : Shared} {a₀ : Array Keyed}

/-- a law that is read only by name -/
structure Held (P : Prop) : Prop where
  out : P
theorem wpS_iteH {σ α : Type} {M : Model} {c : Prop} {_ : Decidable c} {X Y : StateT σ Sem α} {Q : α → σ → Prop} {st : σ} {P : Prop} (hx : c → Held P → wpS M A E s X Q st) (hy : ¬ c → Held P → wpS M A E s Y Q st) (hp : P) : wpS M A E s (if c then X else Y) Q st := by
  split
  · exact hx ‹_› ⟨hp⟩
  · exact hy ‹_› ⟨hp⟩

theorem rev_sorted {xs : Array Keyed} {lo m : Nat} (hj : lo + m ≤ xs.size) (hN : NOn xs lo (lo + m)) : SOn (mirror xs lo (lo + m) ((lo + m - lo) / 2)) lo (lo + m) := fun i j h1 h2 h3 => by
  rw [K_mirror hj, K_mirror hj, if_pos (by omega), if_pos (by omega)]
  exact hN _ _ (by omega) (by omega) (by omega)

theorem wpS_countRunL {st : SortSt} {lo nrem : Nat} {Q : Option Nat → SortSt → Prop} (h0 : IntKeys a₀) (hn : lo + nrem ≤ a₀.size) (h1 : 1 ≤ nrem) (hB : SB a₀ st)
    (h : ∀ m st', Go a₀ lo st st' → 1 ≤ m → m ≤ nrem → SOn (arrOf st') lo (lo + m) → Q (some m) st') :
    wpS (model prog w) A E s (countRun' lo nrem) Q st := by
  rw [countRun'_eq]
  refine wpS_bind (wpS_mono (wpS_forRange
    (I := fun x c st' => st' = st ∧ c = (none, x) ∧ SOn (arrOf st) lo (lo + x))
    (Q := fun c st' => st' = st ∧ ∃ n, c = (none, n) ∧ 1 ≤ n ∧ n ≤ nrem ∧ SOn (arrOf st) lo (lo + n) ∧ (n = nrem ∨ K (arrOf st) (lo + n) < K (arrOf st) (lo + n - 1))) ?astep ?afin
    ⟨rfl, rfl, fun i j hi hij hj => by have : i = j := by omega
                                       subst this; exact Int.le_refl _⟩) ?apost)
  case afin =>
    rintro c st' ⟨rfl, rfl, hs⟩
    rw [show max 1 nrem = nrem by omega] at hs ⊢
    exact ⟨rfl, nrem, rfl, h1, Nat.le_refl _, hs, .inl rfl⟩
  case astep =>
    rintro x c st' hx1 hx ⟨rfl, rfl, hs⟩
    dsimp only
    refine wpS_bind (wpS_ltI hB h0 (by omega) (by omega) ?_)
    by_cases hlt : K (arrOf st') (lo + x) < K (arrOf st') (lo + x - 1)
    · simp only [hlt, decide_true, if_true]
      exact wpS_pure ⟨rfl, x, rfl, hx1, by omega, hs, .inr hlt⟩
    · simp only [hlt, decide_false, Bool.false_eq_true, if_false]
      refine wpS_pure ⟨rfl, rfl, fun i j hi hij hj => ?_⟩
      by_cases e : j = lo + x
      · subst e
        by_cases e2 : i = lo + x
        · subst e2; exact Int.le_refl _
        · exact Int.le_trans (hs i (lo + x - 1) hi (by omega) (by omega)) (Int.not_lt.mp hlt)
      · exact hs i j hi hij (by omega)
  case apost =>
    rintro c st' ⟨rfl, n, rfl, hn1, hn2, hs, hor⟩
    dsimp only
    by_cases e1 : n = nrem
    · rw [if_pos (by simpa using e1)]
      exact wpS_pure (h n st' (Go.refl hB) hn1 hn2 hs)
    rw [if_neg (by simpa using e1)]
    have hdown : K (arrOf st') (lo + n) < K (arrOf st') (lo + n - 1) := hor.resolve_left e1
    refine' wpS_iteH ?hx ?hy ?hp
    case hx =>
      intro e2 hP
      refine wpS_bind (wpS_ltI hB h0 (by omega) (by omega) ?_)
      dsimp only
      by_cases e3 : K (arrOf st') lo < K (arrOf st') (lo + n - 1)
      case pos =>
        rw [if_pos (by simpa using e3)]
        exact wpS_pure (h n st' (Go.refl hB) hn1 hn2 hs)
      rw [if_neg (by simpa using e3)]
      refine wpS_bind (wpS_reverse ?_)
      have hsz : lo + n ≤ (arrOf st').size := by rw [hB.size]; omega
      have heq : ∀ k, lo ≤ k → k < lo + n → K (arrOf st') k = K (arrOf st') (lo + n - 1) := fun k h1 h2 => by
        have := hs lo k (by omega) h1 (by omega)
        have := hs k (lo + n - 1) h1 (by omega) (by omega)
        omega
      have hK := K_mirror_equal hsz heq
      have hG : Go a₀ lo st' (setArr st' (mirror (arrOf st') lo (lo + n) ((lo + n - lo) / 2))) := (Go.refl hB).mirror (Nat.le_refl _) (by omega)
      have hN : NOn (arrOf (setArr st' (mirror (arrOf st') lo (lo + n) ((lo + n - lo) / 2)))) lo (lo + (n + 1)) := fun i j hi hij hj => by
        show K (mirror (arrOf st') lo (lo + n) ((lo + n - lo) / 2)) j ≤ K (mirror (arrOf st') lo (lo + n) ((lo + n - lo) / 2)) i
        rw [hK, hK]
        by_cases c1 : j < lo + n
        · rw [heq j (by omega) c1, heq i hi (by omega)]; exact Int.le_refl _
        · by_cases c2 : i < lo + n
          · rw [heq i hi c2, show j = lo + n by omega]; omega
          · rw [show i = j by omega]; exact Int.le_refl _
      have hall := And.intro hG hN
      revert hall
      generalize setArr st' (mirror (arrOf st') lo (lo + n) ((lo + n - lo) / 2)) = st1
      revert st1
      exact hP.out
    case hy =>
      intro e2 hP
      have hN : NOn (arrOf st') lo (lo + (n + 1)) := fun i j hi hij hj => by
        by_cases c1 : i = j
        · subst c1; exact Int.le_refl _
        · have a1 : i = lo := by omega
          have a2 : j = lo + n := by omega
          have a3 : lo + n - 1 = lo := by omega
          rw [a3] at hdown
          rw [a1, a2]; exact Int.le_of_lt hdown
      exact hP.out st' ⟨Go.refl hB, hN⟩
    case hp =>
    rintro st1 ⟨hG, hN⟩
    refine wpS_bind (wpS_lift (wpAny_rule ⟨rfl, ?_⟩))
    refine wpS_bind (wpS_mono (wpS_forRange
      (I := fun x c st2 => ∃ neq, c = (none, x, neq) ∧ Go a₀ lo st' st2 ∧ NOn (arrOf st2) lo (lo + x) ∧ neq + 1 ≤ x ∧ (∀ i, lo + x - (neq + 1) ≤ i → i < lo + x → K (arrOf st2) i = K (arrOf st2) (lo + x - 1)))
      (Q := fun c st2 => ∃ m neq, c = (none, m, neq) ∧ Go a₀ lo st' st2 ∧ NOn (arrOf st2) lo (lo + m) ∧ 1 ≤ m ∧ m ≤ nrem ∧ neq + 1 ≤ m ∧ (∀ i, lo + m - (neq + 1) ≤ i → i < lo + m → K (arrOf st2) i = K (arrOf st2) (lo + m - 1))) ?dstep ?dfin
      ⟨0, rfl, hG, hN, by omega, fun i h1 h2 => by congr 1; omega⟩) ?dpost)
    case dfin =>
      rintro c st2 ⟨neq, rfl, hG2, hN2, h5, h6⟩
      rw [show max (n + 1) nrem = nrem by omega] at *
      exact ⟨nrem, neq, rfl, hG2, hN2, by omega, by omega, h5, h6⟩
    case dstep =>
      rintro x c st2 hx1 hx ⟨neq, rfl, hG2, hN2, h5, h6⟩
      dsimp only
      have hsz2 : lo + x ≤ (arrOf st2).size := by rw [hG2.sb.size]; omega
      refine wpS_bind (wpS_ltI hG2.sb h0 (by omega) (by omega) ?_)
      by_cases hlt : K (arrOf st2) (lo + x) < K (arrOf st2) (lo + x - 1)
      · simp only [hlt, decide_true, if_true]
        have hN3 : NOn (arrOf st2) lo (lo + (x + 1)) := fun i j hi hij hj => by
          by_cases c1 : j = lo + x
          · subst c1
            by_cases c2 : i = lo + x
            · subst c2; exact Int.le_refl _
            · exact Int.le_trans (Int.le_of_lt hlt) (hN2 i (lo + x - 1) hi (by omega) (by omega))
          · exact hN2 i j hi hij (by omega)
        by_cases hq : neq > 0
        · rw [if_pos hq]
          refine wpS_bind (wpS_reverse (wpS_pure ⟨0, rfl, hG2.mirror (by omega) (by omega), ?_, by omega, fun i h1 h2 => by congr 1; omega⟩))
          have hK := K_mirror_equal (i := lo + x - (neq + 1)) hsz2 h6
          intro i j hi hij hj
          exact Int.le_trans (Int.le_of_eq (hK j)) (Int.le_trans (hN3 i j hi hij hj) (Int.le_of_eq (hK i).symm))
        · rw [if_neg hq]
          exact wpS_pure ⟨0, rfl, hG2, hN3, by omega, fun i h1 h2 => by congr 1; omega⟩
      · simp only [hlt, decide_false, Bool.false_eq_true, if_false]
        refine wpS_bind (wpS_ltI hG2.sb h0 (by omega) (by omega) ?_)
        by_cases hgt : K (arrOf st2) (lo + x - 1) < K (arrOf st2) (lo + x)
        · simp only [hgt, decide_true, if_true]
          exact wpS_pure ⟨x, neq, rfl, hG2, hN2, by omega, by omega, h5, h6⟩
        · simp only [hgt, decide_false, Bool.false_eq_true, if_false]
          have he : K (arrOf st2) (lo + x) = K (arrOf st2) (lo + x - 1) := by omega
          refine wpS_pure ⟨neq + 1, rfl, hG2, fun i j hi hij hj => ?_, by omega, fun i h1 h2 => ?_⟩
          · by_cases c1 : j = lo + x
            · subst c1
              by_cases c2 : i = lo + x
              · subst c2; exact Int.le_refl _
              · rw [he]; exact hN2 i (lo + x - 1) hi (by omega) (by omega)
            · exact hN2 i j hi hij (by omega)
          · rw [show lo + (x + 1) - 1 = lo + x by omega]
            by_cases c1 : i = lo + x
            · rw [c1]
            · rw [he]; exact h6 i (by omega) (by omega)
    case dpost =>
      rintro c st2 ⟨m, neq, rfl, hG2, hN2, hm1, hm2, h5, h6⟩
      dsimp only
      have hsz2 : lo + m ≤ (arrOf st2).size := by rw [hG2.sb.size]; omega
      refine' wpS_iteH ?hx ?hy ?hp
      case hx =>
        intro _ hP
        refine wpS_bind (wpS_reverse ?_)
        have hK := K_mirror_equal (i := lo + m - (neq + 1)) hsz2 h6
        have hG3 := hG2.mirror (i := lo + m - (neq + 1)) (j := lo + m) (by omega) (by omega)
        have hN3 : NOn (arrOf (setArr st2 (mirror (arrOf st2) (lo + m - (neq + 1)) (lo + m) ((lo + m - (lo + m - (neq + 1))) / 2)))) lo (lo + m) := fun i j hi hij hj =>
          Int.le_trans (Int.le_of_eq (hK j)) (Int.le_trans (hN2 i j hi hij hj) (Int.le_of_eq (hK i).symm))
        have hall := And.intro hG3 hN3
        revert hall
        generalize setArr st2 (mirror (arrOf st2) (lo + m - (neq + 1)) (lo + m) ((lo + m - (lo + m - (neq + 1))) / 2)) = st3
        revert st3
        exact hP.out
      case hy =>
        intro _ hP
        exact hP.out st2 ⟨hG2, hN2⟩
      case hp =>
      rintro st3 ⟨hG3, hN3⟩
      refine wpS_bind (wpS_reverse ?_)
      have hG4 := hG3.mirror (i := lo) (j := lo + m) (Nat.le_refl _) (by omega)
      have hsz3 := hG3.sb.size
      refine wpS_bind (wpS_mono (wpS_forRange
        (I := fun x c st5 => c = (none, x) ∧ Go a₀ lo st' st5 ∧ SOn (arrOf st5) lo (lo + x))
        (Q := fun c st5 => ∃ q, c = (none, q) ∧ 1 ≤ q ∧ q ≤ nrem ∧ Go a₀ lo st' st5 ∧ SOn (arrOf st5) lo (lo + q)) ?bstep ?bfin
        ⟨rfl, hG4, rev_sorted (by rw [hsz3]; omega) hN3⟩) ?bpost)
      case bfin =>
        rintro c st5 ⟨rfl, hG5, hS5⟩
        rw [show max m nrem = nrem by omega] at *
        exact ⟨nrem, rfl, h1, Nat.le_refl _, hG5, hS5⟩
      case bstep =>
        rintro x c st5 hx1 hx ⟨rfl, hG5, hS5⟩
        dsimp only
        refine wpS_bind (wpS_ltI hG5.sb h0 (by omega) (by omega) ?_)
        by_cases hlt : K (arrOf st5) (lo + x) < K (arrOf st5) (lo + x - 1)
        · simp only [hlt, decide_true, if_true]
          exact wpS_pure ⟨x, rfl, by omega, by omega, hG5, hS5⟩
        · simp only [hlt, decide_false, Bool.false_eq_true, if_false]
          refine wpS_pure ⟨rfl, hG5, fun i j hi hij hj => ?_⟩
          by_cases e : j = lo + x
          · subst e
            by_cases e2 : i = lo + x
            · subst e2; exact Int.le_refl _
            · exact Int.le_trans (hS5 i (lo + x - 1) hi (by omega) (by omega)) (Int.not_lt.mp hlt)
          · exact hS5 i j hi hij (by omega)
      case bpost =>
        rintro c st5 ⟨q, rfl, hq1, hq2, hG5, hS5⟩
        exact wpS_pure (h q st5 hG5 hq1 hq2 hS5)
end
end Mine
end

section
open PySem PySem.W PyProof.Rows PySem.Calls PySem.Spec
set_option maxRecDepth 100000
namespace Mine

abbrev Runs := List (Nat × Nat × Nat)
def Tile (xs : Array Keyed) : Runs → Nat → Nat → Prop
  | [], a, b => a = b
  | (s, n, _) :: r, a, b => s = a ∧ 1 ≤ n ∧ SOn xs s (s + n) ∧ Tile xs r (s + n) b

theorem Tile.le {xs : Array Keyed} : ∀ {l : Runs} {a b : Nat}, Tile xs l a b → a + l.length ≤ b
  | [], a, b, h => by cases h; simp
  | (s, n, p) :: r, a, b, ⟨h1, h2, _, h4⟩ => by
    have := Tile.le h4
    simp only [List.length_cons]; omega

theorem tile_append {xs : Array Keyed} : ∀ {l r : Runs} {a c : Nat}, Tile xs (l ++ r) a c ↔ ∃ b, Tile xs l a b ∧ Tile xs r b c
  | [], r, a, c => ⟨fun h => ⟨a, rfl, h⟩, fun ⟨b, h1, h2⟩ => by cases h1; exact h2⟩
  | (s, n, p) :: l, r, a, c => by
    constructor
    · rintro ⟨h1, h2, h3, h4⟩
      obtain ⟨b, h5, h6⟩ := tile_append.mp h4
      exact ⟨b, ⟨h1, h2, h3, h5⟩, h6⟩
    · rintro ⟨b, ⟨h1, h2, h3, h4⟩, h5⟩
      exact ⟨h1, h2, h3, tile_append.mpr ⟨b, h4, h5⟩⟩

theorem SOn.congr {xs ys : Array Keyed} {lo hi : Nat} (h : SOn xs lo hi) (e : ∀ k, lo ≤ k → k < hi → K ys k = K xs k) : SOn ys lo hi := fun i j h1 h2 h3 => by
  rw [e i h1 (by omega), e j (by omega) h3]; exact h i j h1 h2 h3

theorem Tile.congr {xs ys : Array Keyed} : ∀ {l : Runs} {a b : Nat}, Tile xs l a b → (∀ k, a ≤ k → k < b → K ys k = K xs k) → Tile ys l a b
  | [], a, b, h, _ => h
  | (s, n, p) :: r, a, b, ⟨h1, h2, h3, h4⟩, e => by
    have := Tile.le h4
    exact ⟨h1, h2, SOn.congr h3 fun k k1 k2 => e k (by omega) (by omega), Tile.congr h4 fun k k1 k2 => e k (by omega) k2⟩

theorem Tile.power {xs : Array Keyed} {pw : Nat} : ∀ {l : Runs} {i a b : Nat}, Tile xs l a b → Tile xs (l.modify i fun x => (x.1, x.2.1, pw)) a b
  | [], i, a, b, h => by simpa using h
  | (s, n, p) :: r, 0, a, b, ⟨h1, h2, h3, h4⟩ => ⟨h1, h2, h3, h4⟩
  | (s, n, p) :: r, i + 1, a, b, ⟨h1, h2, h3, h4⟩ => by
    rw [List.modify_succ_cons]
    exact ⟨h1, h2, h3, Tile.power h4⟩

section
variable {prog : Program} {w : World} {A : Around} {E : Value → Shared → Prop} {s : Shared} {a₀ : Array Keyed}

theorem ite_lt {c : Prop} [Decidable c] {a b l : Nat} (ha : a + 1 < l) (hb : b + 1 < l) : (if c then a else b) + 1 < l := by
  split
  · exact ha
  · exact hb

theorem wpS_mergeT {st : SortSt} {i e : Nat} {l : Runs} {Q : Bool → SortSt → Prop} (h0 : IntKeys a₀) (hB : SB a₀ st) (hp : pendingOf st = l.toArray) (hT : Tile (arrOf st) l 0 e) (he : e ≤ a₀.size) (hi : i + 1 < l.length)
    (h : ∀ st' l', SB a₀ st' → pendingOf st' = l'.toArray → Tile (arrOf st') l' 0 e → l'.length + 1 = l.length → (∀ k, e ≤ k → K (arrOf st') k = K (arrOf st) k) → Q true st') :
    wpS (model prog w) A E s (PyProof.Rows.mergeAt' i) Q st := by
  obtain ⟨pre, ⟨sa, na, pw⟩, ⟨sb, nb, pw2⟩, post, hl, hpre⟩ : ∃ (pre : Runs) (x y : Nat × Nat × Nat) (post : Runs), l = pre ++ x :: y :: post ∧ pre.length = i := by
    refine ⟨l.take i, l[i]'(by omega), l[i + 1], l.drop (i + 2), ?_, by simp; omega⟩
    rw [← List.drop_eq_getElem_cons, ← List.drop_eq_getElem_cons, List.take_append_drop]
  subst hl
  obtain ⟨c, t1, h1, h2, h3, h4, h5, h6, t2⟩ := tile_append.mp hT
  subst h1
  subst h4
  have q1 := t1.le
  have q2 := Tile.le t2
  refine wpS_mergeAt h0 hB hp hpre.symm rfl h2 h5 (by omega) h3 h6 fun st' hB' hp' hS hK => ?_
  refine h st' _ hB' hp' (tile_append.mpr ⟨sa, t1.congr fun k _ k2 => hK k (.inl k2), rfl, by omega, ?_, ?_⟩) (by simp; omega) fun k hk => hK k (.inr (by omega))
  · rw [← Nat.add_assoc]; exact hS
  · rw [← Nat.add_assoc]; exact Tile.congr t2 fun k k1 _ => hK k (.inr k1)

theorem wpS_sortRunsL {st : SortSt} {Q : Unit → SortSt → Prop} (h0 : IntKeys a₀) (hB : SB a₀ st) (hpd : pendingOf st = #[]) (h2 : 2 ≤ a₀.size)
    (h : ∀ st', (arrOf st').Perm a₀ → failedOf st' = none → SortedTo (arrOf st') a₀.size → Q () st') : wpS (model prog w) A E s sortRuns' Q st := by
  rw [sortRuns'_eq]
  refine wpS_bind (wpS_get ?_)
  rw [hB.size]
  dsimp only
  generalize minRun' a₀.size a₀.size 0 = minrun
  refine wpS_bind (wpS_mono (wpS_forRange
    (I := fun x c st' => ∃ lo l, c = (none, lo) ∧ lo ≤ a₀.size ∧ x ≤ lo ∧ SB a₀ st' ∧ pendingOf st' = l.toArray ∧ Tile (arrOf st') l 0 lo)
    (Q := fun c st' => ∃ l, c = (none, a₀.size) ∧ SB a₀ st' ∧ pendingOf st' = l.toArray ∧ Tile (arrOf st') l 0 a₀.size) ?step ?fin ⟨0, [], rfl, by omega, by omega, hB, hpd, rfl⟩) ?post)
  case fin =>
    rintro c st' ⟨lo, l, rfl, h3, h4, h5, h6, h7⟩
    have : lo = a₀.size := by omega
    subst this
    exact ⟨l, rfl, h5, h6, h7⟩
  case step =>
    rintro x c st' _ hx ⟨lo, l, rfl, h3, h4, h5, h6, h7⟩
    dsimp only
    by_cases hge : lo ≥ a₀.size
    · rw [if_pos hge]
      have : lo = a₀.size := by omega
      subst this
      exact wpS_pure ⟨l, rfl, h5, h6, h7⟩
    rw [if_neg hge]
    refine wpS_bind (wpS_countRunL h0 (by omega) (by omega) h5 fun m st1 hG hm1 hm2 hS => ?_)
    dsimp only
    have hT1 : Tile (arrOf st1) l 0 lo := h7.congr fun k _ k2 => hG.below k k2
    have hp1 : pendingOf st1 = l.toArray := hG.pend.trans h6
    by_cases hlt : m < minrun
    case' pos =>
      rw [if_pos hlt]
      refine wpS_bind (wpS_lift (wpAny_rule ⟨rfl, ?_⟩))
      refine wpS_bind (wpS_binary h0 (by omega) (by omega) hG.sb hS fun st2 hG2 hS2 => ?_)
      simp only [Bool.not_true, Bool.false_eq_true, if_false]
      have hn1 : 1 ≤ min (a₀.size - lo) minrun := by omega
      have hn2 : lo + min (a₀.size - lo) minrun ≤ a₀.size := by omega
      have hT2 : Tile (arrOf st2) l 0 lo := hT1.congr fun k _ k2 => hG2.below k k2
      have hp2 : pendingOf st2 = l.toArray := hG2.pend.trans hp1
      have hB2 := hG2.sb
      generalize min (a₀.size - lo) minrun = n at hn1 hn2 hS2 ⊢
    case' neg =>
      rw [if_neg hlt]
      obtain ⟨n, rfl⟩ : ∃ n, n = m := ⟨m, rfl⟩
      have hn1 := hm1
      have hn2 : lo + n ≤ a₀.size := by omega
      have hT2 := hT1
      have hp2 := hp1
      have hB2 := hG.sb
      have hS2 := hS
    all_goals
      refine wpS_bind (wpS_get ?_)
      rw [hp2]
      cases hb : l.toArray.back?
      case none =>
        dsimp only
        refine wpS_bind (wpS_modify (wpS_pure ⟨_, l ++ [(lo, n, 0)], rfl, hn2, by omega, ⟨hB2.perm, hB2.kind, hB2.failed⟩, ?_, ?_⟩))
        · show (pendingOf _).push _ = _
          rw [hp2]; simp
        · exact tile_append.mpr ⟨lo, hT2, rfl, hn1, hS2, rfl⟩
      case some v =>
        obtain ⟨s1, n1, p1⟩ := v
        dsimp only
        generalize power' a₀.size (2 * s1 + n1) (2 * s1 + n1 + n1 + n) a₀.size = pw
        refine wpS_bind (wpS_mono (wpS_forRange
          (I := fun x c st5 => c = (none, ()) ∧ ∃ l, SB a₀ st5 ∧ pendingOf st5 = l.toArray ∧ Tile (arrOf st5) l 0 lo ∧ SOn (arrOf st5) lo (lo + n))
          (Q := fun c st5 => c = (none, ()) ∧ ∃ l, SB a₀ st5 ∧ pendingOf st5 = l.toArray ∧ Tile (arrOf st5) l 0 lo ∧ SOn (arrOf st5) lo (lo + n)) ?cstep (fun _ _ hh => hh) ⟨rfl, l, hB2, hp2, hT2, hS2⟩) ?cpost)
        case cstep =>
          rintro y c st5 _ hy ⟨rfl, l5, hB5, hp5, hT5, hS5⟩
          refine wpS_bind (wpS_get ?_)
          rw [hp5]
          simp only [List.size_toArray]
          by_cases hl1 : l5.length > 1
          · rw [if_pos hl1, getElem?_pos l5.toArray (l5.length - 2) (by simp; omega)]
            dsimp only
            split
            · exact wpS_pure ⟨rfl, l5, hB5, hp5, hT5, hS5⟩
            · refine wpS_bind (wpS_mergeT h0 hB5 hp5 hT5 h3 (by omega) fun st6 l6 hB6 hp6 hT6 _ hK => ?_)
              simp only [Bool.not_true, Bool.false_eq_true, if_false]
              exact wpS_pure ⟨rfl, l6, hB6, hp6, hT6, SOn.congr hS5 fun k k1 _ => hK k k1⟩
          · rw [if_neg hl1]
            exact wpS_pure ⟨rfl, l5, hB5, hp5, hT5, hS5⟩
        case cpost =>
          rintro c st5 ⟨rfl, l5, hB5, hp5, hT5, hS5⟩
          dsimp only
          refine wpS_bind (wpS_modify (wpS_bind (wpS_modify (wpS_pure ⟨_, (l5.modify (l5.length - 1) fun x => (x.1, x.2.1, pw)) ++ [(lo, n, 0)], rfl, hn2, by omega, ⟨hB5.perm, hB5.kind, hB5.failed⟩, ?_, ?_⟩))))
          · show ((pendingOf st5).modify ((pendingOf st5).size - 1) _).push _ = _
            rw [hp5]; simp
          · exact tile_append.mpr ⟨lo, hT5.power, rfl, hn1, hS5, rfl⟩
  case post =>
    rintro c st' ⟨l, rfl, hB', hp, hT⟩
    dsimp only
    refine wpS_bind (wpS_mono (wpS_forRange
      (I := fun x c st'' => c = (none, ()) ∧ ∃ l, SB a₀ st'' ∧ pendingOf st'' = l.toArray ∧ Tile (arrOf st'') l 0 a₀.size ∧ l.length + x ≤ a₀.size)
      (Q := fun c st'' => c = (none, ()) ∧ ∃ l, SB a₀ st'' ∧ Tile (arrOf st'') l 0 a₀.size ∧ l.length ≤ 1) ?mstep ?mfin ⟨rfl, l, hB', hp, hT, by have := hT.le; omega⟩) ?mpost)
    case mfin =>
      rintro c st'' ⟨rfl, l, hB2, hp2, hT2, hl⟩
      exact ⟨rfl, l, hB2, hT2, by omega⟩
    case mstep =>
      rintro x c st'' _ hx ⟨rfl, l, hB2, hp2, hT2, hl⟩
      refine wpS_bind (wpS_get ?_)
      rw [hp2]
      simp only [List.size_toArray]
      by_cases h1 : l.length ≤ 1
      · rw [if_pos h1]
        exact wpS_pure ⟨rfl, l, hB2, hT2, h1⟩
      rw [if_neg h1]
      refine wpS_bind (wpS_mergeT h0 hB2 hp2 hT2 (Nat.le_refl _) ?_ fun st3 l3 hB3 hp3 hT3 hl3 _ => ?_)
      · exact ite_lt (by omega) (by omega)
      · simp only [Bool.not_true, Bool.false_eq_true, if_false]
        exact wpS_pure ⟨rfl, l3, hB3, hp3, hT3, by omega⟩
    case mpost =>
      rintro c st'' ⟨rfl, l, hB2, hT2, hl⟩
      refine wpS_pure (h st'' hB2.perm hB2.failed ?_)
      match l, hl, hT2 with
      | [], _, hT2 => have : 0 = a₀.size := hT2; omega
      | [(s, n, p)], _, ⟨e1, _, e3, e4⟩ =>
        have e4' : s + n = a₀.size := e4
        subst e1
        intro i j hij hj
        exact e3 i j (by omega) hij (by omega)
end
end Mine
end

section
open PySem PySem.W PyProof.Rows PySem.Calls PySem.Spec
set_option maxRecDepth 100000
namespace Mine

section
variable {prog : Program} {w : World} {A : Around} {E : Value → Shared → Prop} {s : Shared}

/-- list.sort() of ints, however many -/
theorem sort_long {a : Addr} {vs : List Value} {ns : List Int} {n : Nat} {P : Fin → Shared → Prop} (ho : s.heap.get? a = some (seqObj "list" vs.toArray n))
    (hI : IntsAre vs ns) (hmax : vs.length ≤ 100000)
    (h : ∀ (out : Array Value) (ns' : List Int), IntsAre out.toList ns' → ns'.Perm ns → ns'.Pairwise (· ≤ ·) → P (.done (.ret .none)) { s with heap := sortedHeap s.heap a vs out }) :
    wpAny (model prog w) A (Builtin.«list.sort» ⟨[.ref a], []⟩) P E s := by
  have hlt : a < s.heap.objs.size := Heap.lt_size ho
  obtain ⟨h1, eh1⟩ : ∃ h1, h1 = s.heap.update a (Obj.mapSeq fun _ => #[]) := ⟨_, rfl⟩
  obtain ⟨n1, ho1⟩ : ∃ e1, h1.get? a = some (seqObj "list" #[] e1) := ⟨_, by rw [eh1]; exact get?_update_seq ho (fun _ => #[])⟩
  have hs1 : h1.objs.size = s.heap.objs.size := by rw [eh1]; exact Heap.size_update ..
  obtain ⟨h3, eh3⟩ : ∃ h3, h3 = (h1.push (seqObj "tuple" vs.toArray 0)).push (seqObj "list" #[] 0) := ⟨_, rfl⟩
  have ho3 : h3.get? a = some (seqObj "list" #[] n1) := by
    rw [eh3, Heap.get?_push_ne _ _ _ (by rw [size_push', hs1]; exact Nat.ne_of_lt (Nat.lt_succ_of_lt hlt)), Heap.get?_push_ne _ _ _ (by rw [hs1]; exact Nat.ne_of_lt hlt)]
    exact ho1
  have endh : ∀ out : Array Value, sortedHeap s.heap a vs out = h3.update a (Obj.mapSeq fun _ => out) := fun out => by rw [eh3, eh1]; rfl
  have hend : ∀ st' : SortSt, (arrOf st').Perm (pairsOf vs) → failedOf st' = none → SortedTo (arrOf st') (pairsOf vs).size →
      wpAny (model prog w) A (do
        let touched := (← seqEpoch a) != n1
        Builtin.List.listUpdate (.ref a) fun _ => (arrOf st').map (·.2)
        if let some e := failedOf st' then rule "list.sort.comparison-raised"; throw e
        if touched then rule "list.sort.modified"; raiseError "ValueError" "list modified during sort"
        ret .none) P E { s with heap := h3 } := by
    intro st' hp hf hs
    obtain ⟨ns', x1, x2, x3⟩ := sorted_out hI hp hs
    refine wpAny_bind (seqEpoch_at (s := { s with heap := h3 }) ho3 rfl ?_)
    have hz : ((arrOf st').map (·.2)).size ≤ sizeLine + 1 := by
      rw [Array.size_map, hp.size_eq, pairsOf_size, sizeLine_eq]; omega
    refine wpAny_bind (listUpdate_at (s := { s with heap := h3 }) ho3 rfl ?_ (hsz := Nat.zero_le _) (hsz2 := hz))
    rw [hf]
    simp only [bne_self_eq_false, Bool.false_eq_true, if_false]
    refine wpAny_pure ?_
    have := h _ ns' x1 x2 x3
    rw [endh] at this
    exact this
  rw [list_sort_plain]
  have hz0 : vs.toArray.size ≤ sizeLine := by rw [List.size_toArray, sizeLine_eq]; omega
  refine wpAny_bind (listItems_at ho rfl ?_)
  refine wpAny_bind (listUpdate_at ho rfl ?_ (hsz := hz0) (hsz2 := Nat.zero_le _))
  rw [← eh1]
  refine wpAny_bind (seqEpoch_at (s := { s with heap := h1 }) ho1 rfl ?_)
  refine wpAny_bind (wpAny_newTuple ?_)
  refine wpAny_bind (wpAny_newList ?_)
  refine wpAny_holding ?_
  show wpAny (model prog w) A _ P E { s with heap := (h1.push (seqObj "tuple" vs.toArray 0)).push (seqObj "list" #[] 0) }
  rw [← eh3]
  dsimp only
  by_cases h2 : vs.toArray.size < 2
  · rw [if_pos h2, if_pos h2]
    refine wpAny_bind (wpAny_pure ?_)
    rw [StateT.run_pure]
    refine wpAny_bind (wpAny_pure ?_)
    refine hend (SortSt.mk' general' (vs.toArray.zip vs.toArray) #[] 7 none) (Array.Perm.refl _) rfl fun i j hij hj => ?_
    have hl : vs.length < 2 := by simpa using h2
    have : i = j := by rw [pairsOf_size] at hj; omega
    subst this; exact Int.le_refl _
  · rw [if_neg h2, if_neg h2]
    obtain ⟨v₁, v₂, rest, rfl⟩ : ∃ v₁ v₂ rest, vs = v₁ :: v₂ :: rest := by
      match vs, h2 with
      | [], h2 => simp at h2
      | [_], h2 => simp at h2
      | v₁ :: v₂ :: rest, _ => exact ⟨v₁, v₂, rest, rfl⟩
    rw [keyKind_ints hI]
    refine wpAny_bind (wpAny_pure ?_)
    have hsort := wpS_sortRunsL (prog := prog) (w := w) (A := A) (E := E) (s := { s with heap := h3 }) (a₀ := pairsOf (v₁ :: v₂ :: rest))
      (st := SortSt.mk' oneType' ((v₁ :: v₂ :: rest).toArray.zip (v₁ :: v₂ :: rest).toArray) #[] 7 none)
      (Q := fun _ st' => (arrOf st').Perm (pairsOf (v₁ :: v₂ :: rest)) ∧ failedOf st' = none ∧ SortedTo (arrOf st') (pairsOf (v₁ :: v₂ :: rest)).size)
      hI.intKeys ⟨Array.Perm.refl _, rfl, rfl⟩ rfl (by rw [pairsOf_size]; simp) fun st' a1 a2 a3 => ⟨a1, a2, a3⟩
    refine wpAny_bind (wpAny_mono hsort ?_ fun _ _ e => e)
    rintro ⟨⟨⟩, st'⟩ s' ⟨rfl, hp, hf, hs⟩
    exact hend st' hp hf hs

/-- sorted() of whatever is collected to ints -/
theorem sorted_of (Dr : Drawn → Prop) {x : Value} {N : List Int} {Q : Value → Shared → Prop} {h₀ : Heap} {L : Addr} {m : Str → Option Value} {news : List (Addr × Obj)}
    (F : Fr h₀ L s.heap m) (Nw : News h₀ L s.heap news) (hmax : N.length ≤ 100000)
    (hc : ∀ A' : Around, A'.handled = A.handled → wpAny (model prog w) A' (collect x) (fun vs s1 => ∃ h1 d tk ns, s1 = { s with heap := h1, drawn := d, toks := tk } ∧ Dr d ∧ (∀ b o, s.heap.get? b = some o → h1.get? b = some o) ∧ IntsAre vs ns ∧ ns.Perm N) E s)
    (h : ∀ D h' d tk vs' ns' c, Dr d → Fr h₀ L h' m → News h₀ L h' ((D, listOf vs'.toArray c) :: news) → (∀ q ∈ news, q.1 < D) → (∀ b o, s.heap.get? b = some o → h'.get? b = some o) → IntsAre vs' ns' → ns'.Perm N → ns'.Pairwise (· ≤ ·) → Q (.ref D) { s with heap := h', drawn := d, toks := tk }) :
    wpAny (model prog w) A (call (.builtin "sorted") [x]) Q E s := by
  refine Calls.call_function_entry kind_sorted plain_sorted entry_sorted (args_sorted1 _) ?_
  unfold Builtin.«sorted»
  refine wpAny_bind (m := checkCount "sorted" 1 1 _) (wpAny_pure ?_)
  refine wpAny_bind (wpAny_mono (hc _ (by simp)) ?_ fun _ _ e => e)
  rintro vs s1 ⟨h1, d, tk, ns, rfl, hd, hk, hI, hp⟩
  have hmax' : vs.length ≤ 100000 := by rw [hI.length, hp.length_eq]; exact hmax
  refine wpAny_bind (wpAny_newList ?_ (by rw [sizeLine_eq]; omega))
  have hoL : (h1.push (seqObj "list" vs.toArray 0)).get? h1.objs.size = some (seqObj "list" vs.toArray 0) := Heap.get?_push_size _ rfl
  refine wpAny_bind (wpAny_holding (wpAny_call_entry slot_list_sort ⟨_, hoL, rfl⟩ entry_list_sort (sort_long (s := { s with heap := h1.push (seqObj "list" vs.toArray 0), drawn := d, toks := tk }) hoL hI hmax' fun out ns' a1 a2 a3 => ⟨_, rfl, ?_⟩) (args_list_sort _)))
  obtain ⟨e, he⟩ := sortedHeap_at (vs := vs) (out := out) hoL
  have hk2 : ∀ b o, h1.get? b = some o → (sortedHeap (h1.push (seqObj "list" vs.toArray 0)) h1.objs.size vs out).get? b = some o := fun b o hb => by
    have hlt := Heap.lt_size hb
    rw [sortedHeap_old (Nat.ne_of_lt hlt) (by rw [size_push']; exact Nat.lt_succ_of_lt hlt), Heap.get?_push_ne _ _ _ (Nat.ne_of_lt hlt)]
    exact hb
  have F1 := F.kept hk
  have N1 : News h₀ L h1 news := fun p hp => ⟨hk _ _ (Nw p hp).1, (Nw p hp).2⟩
  exact wpAny_pure ⟨_, rfl, h h1.objs.size _ d tk out.toList ns' e hd (F1.kept hk2) (N1.kept_cons F1 hk2 (Nat.le_refl _) he) (fun q hq => Heap.lt_size (N1 q hq).1) (fun b o hb => hk2 b o (hk b o hb)) a1 (a2.trans hp) a3⟩

/-- sorted() of a list of ints, however many -/
theorem sorted_list {l : Addr} {vs : List Value} {ns : List Int} {Q : Value → Shared → Prop} {h₀ : Heap} {L : Addr} {m : Str → Option Value} {news : List (Addr × Obj)}
    (F : Fr h₀ L s.heap m) (Nw : News h₀ L s.heap news) (hl : s.heap.IsList l vs.toArray) (hI : IntsAre vs ns) (hmax : ns.length ≤ 100000)
    (h : ∀ D h' tk vs' ns' c, Fr h₀ L h' m → News h₀ L h' ((D, listOf vs'.toArray c) :: news) → (∀ q ∈ news, q.1 < D) → (∀ b o, s.heap.get? b = some o → h'.get? b = some o) → IntsAre vs' ns' → ns'.Perm ns → ns'.Pairwise (· ≤ ·) → Q (.ref D) { s with heap := h', toks := tk }) :
    wpAny (model prog w) A (call (.builtin "sorted") [.ref l]) Q E s := by
  refine sorted_of (· = s.drawn) F Nw hmax (fun A' _ => ?_) fun D h' d tk vs' ns' c hd => by subst hd; exact h D h' tk vs' ns' c
  refine collect_list hl ⟨_, s.drawn, s.toks, ns, rfl, rfl, fun b o hb => ?_, hI, List.Perm.refl _⟩ (by rw [hI.length, sizeLine_eq]; omega)
  have hlt := Heap.lt_size hb
  rw [Heap.get?_update_ne _ _ _ _ (Nat.ne_of_lt hlt), Heap.get?_push_ne _ _ _ (Nat.ne_of_lt hlt)]
  exact hb
end
end Mine
end

section
open PySem PySem.W PyProof.Rows PySem.Calls PySem.Spec
set_option maxRecDepth 100000
namespace Mine

abbrev Rise (xs : Array Nat) : Prop := xs.toList.Pairwise (· < ·)

theorem Rise.lt {xs : Array Nat} (h : Rise xs) {i j : Nat} (hij : i < j) (hj : j < xs.size) : xs.getD i 0 < xs.getD j 0 := by
  have := List.pairwise_iff_getElem.mp h i j (by simp; omega) (by simpa using hj) hij
  rw [Array.getD_eq_getD_getElem?, Array.getD_eq_getD_getElem?, getElem?_pos xs i (by omega), getElem?_pos xs j hj]
  simpa using this

theorem below_go {xs : Array Nat} {x k : Nat} (h1 : ∀ j, j < k → xs.getD j 0 < x) (h2 : ∀ j, k ≤ j → j < xs.size → x ≤ xs.getD j 0) :
    ∀ (fuel lo hi : Nat), lo ≤ k → k ≤ hi → hi ≤ xs.size → hi - lo ≤ fuel → SetTable.below.go xs x fuel lo hi = k
  | 0, lo, hi, a, b, c, d => by unfold SetTable.below.go; omega
  | fuel + 1, lo, hi, a, b, c, d => by
    unfold SetTable.below.go
    by_cases e : lo < hi
    · rw [if_pos e]
      dsimp only
      have hm : (lo + hi) / 2 < xs.size := by omega
      rw [show xs.getD ((lo + hi) / 2) x = xs.getD ((lo + hi) / 2) 0 by rw [Array.getD_eq_getD_getElem?, Array.getD_eq_getD_getElem?, getElem?_pos xs _ hm]; rfl]
      by_cases e2 : xs.getD ((lo + hi) / 2) 0 < x
      · rw [if_pos e2]
        refine below_go h1 h2 fuel _ _ ?_ b c (by omega)
        rcases Nat.lt_or_ge ((lo + hi) / 2) k with g | g
        · exact g
        · have := h2 _ g (by omega); omega
      · rw [if_neg e2]
        refine below_go h1 h2 fuel _ _ a ?_ (by omega) (by omega)
        rcases Nat.lt_or_ge ((lo + hi) / 2) k with g | g
        · exact absurd (h1 _ g) e2
        · exact g
    · rw [if_neg e]; omega

theorem below_eq {xs : Array Nat} {x k : Nat} (hk : k ≤ xs.size) (h1 : ∀ j, j < k → xs.getD j 0 < x) (h2 : ∀ j, k ≤ j → j < xs.size → x ≤ xs.getD j 0) : SetTable.below xs x = k :=
  below_go h1 h2 _ _ _ (Nat.zero_le _) hk (Nat.le_refl _) (by omega)

theorem below_spec {xs : Array Nat} (hr : Rise xs) (x : Nat) : SetTable.below xs x ≤ xs.size ∧ (∀ j, j < SetTable.below xs x → xs.getD j 0 < x) ∧ (∀ j, SetTable.below xs x ≤ j → j < xs.size → x ≤ xs.getD j 0) := by
  have ex : ∀ n, n ≤ xs.size → ∃ k, k ≤ n ∧ (∀ j, j < k → xs.getD j 0 < x) ∧ (∀ j, k ≤ j → j < n → x ≤ xs.getD j 0) := by
    intro n
    induction n with
    | zero => exact fun _ => ⟨0, Nat.le_refl _, fun j hj => by omega, fun j _ hj => by omega⟩
    | succ n ih =>
      intro hn
      obtain ⟨k, k1, k2, k3⟩ := ih (by omega)
      by_cases e : k = n
      · subst e
        by_cases e2 : xs.getD k 0 < x
        · refine ⟨k + 1, Nat.le_refl _, fun j hj => ?_, fun j _ hj => by omega⟩
          by_cases e3 : j = k
          · subst e3; exact e2
          · exact k2 j (by omega)
        · refine ⟨k, by omega, k2, fun j h1 h2 => ?_⟩
          have : j = k := by omega
          subst this; omega
      · refine ⟨k, by omega, k2, fun j h1 h2 => ?_⟩
        by_cases e3 : j = n
        · subst e3
          have a := k3 k (Nat.le_refl _) (by omega)
          have b := hr.lt (show k < j by omega) (by omega)
          omega
        · exact k3 j h1 (by omega)
  obtain ⟨k, k1, k2, k3⟩ := ex _ (Nat.le_refl _)
  rw [below_eq k1 k2 k3]
  exact ⟨k1, k2, k3⟩

structure TabOk (led : Bool) (t : SetTable) (n : Nat) : Prop where
  fits : t.fits n = true
  rise : Rise t.place
  dum : t.dummies = #[]
  led : t.led = led

theorem TabOk.size {b : Bool} {t : SetTable} {n : Nat} (h : TabOk b t n) : t.place.size = n := by
  have := h.fits
  simp only [SetTable.fits, Bool.and_eq_true, beq_iff_eq] at this
  exact this.1

theorem has_none (j : Nat) : SetTable.has #[] j = false := by simp [SetTable.has]

theorem tab_standIn (b : Bool) (t : SetTable) (n : Nat) (h : t.led = b) : TabOk b (t.standIn n) n :=
  ⟨SetTable.standIn_fits t n, by simp only [SetTable.standIn, Rise, Array.toList_range]; exact List.pairwise_lt_range, rfl, h⟩

theorem TabOk.plainOff {b : Bool} {t : SetTable} {n : Nat} (h : TabOk b t n) : TabOk b { t with plain := false } n := ⟨by have := h.fits; exact this, h.rise, h.dum, h.led⟩

theorem probe_empty {t : SetTable} (hd : t.dummies = #[]) {ha : Nat → Int} {h : Int} : ∀ (fuel : Nat) (p : SetTable.Probe), p.dummy = none → ∀ {j d}, SetTable.probe.go t ha h fuel p = some (.empty j d) → d = none ∧ t.slot j = .empty
  | 0, p, _, j, d, e => by unfold SetTable.probe.go at e; cases e
  | fuel + 1, p, hp, j, d, e => by
    have adv : ∀ q : SetTable.Probe, q.dummy = none → (t.advance q).dummy = none := fun q hq => by
      unfold SetTable.advance
      split
      · exact hq
      · exact hq
    unfold SetTable.probe.go at e
    cases hs : t.slot p.j with
    | empty =>
      rw [hs] at e
      dsimp only at e
      cases e
      exact ⟨hp, hs⟩
    | dummy =>
      exfalso
      unfold SetTable.slot at hs
      rw [hd, has_none] at hs
      dsimp only at hs
      split at hs
      · cases hs
      · simp at hs
    | live i =>
      rw [hs] at e
      dsimp only at e
      split at e
      · cases e
      · exact probe_empty hd fuel _ (adv p hp) e

theorem freeSlot_is {t : SetTable} (hd : t.dummies = #[]) {h : Int} {j : Nat} {w : Bool} (e : t.freeSlot h = some (j, w)) : w = false ∧ t.slot j = .empty := by
  unfold SetTable.freeSlot at e
  split at e
  · rename_i j' d hp
    have := probe_empty hd _ _ (by rfl) hp
    obtain ⟨rfl, hs⟩ := this
    simp only [Option.getD_none, Option.isSome_none, Option.some.injEq, Prod.mk.injEq] at e
    obtain ⟨rfl, rfl⟩ := e
    exact ⟨rfl, hs⟩
  · cases e

theorem tab_put {b : Bool} {t : SetTable} {n j : Nat} (hT : TabOk b t n) (hs : t.slot j = .empty) : Rise (t.put j).1.place ∧ (t.put j).1.dummies = #[] ∧ (t.put j).1.led = b := by
  obtain ⟨k1, k2, k3⟩ := below_spec hT.rise j
  refine ⟨?_, ?_, hT.led⟩
  · show Rise (SetTable.insertAt t.place (SetTable.below t.place j) j)
    unfold Rise
    rw [SetTable.toList_insertAt]
    have hne : t.place[SetTable.below t.place j]? ≠ some j := by
      intro e
      unfold SetTable.slot at hs
      dsimp only at hs
      rw [e] at hs
      simp at hs
    refine List.pairwise_append.mpr ⟨hT.rise.take, List.pairwise_cons.mpr ⟨fun x hx => ?_, hT.rise.drop⟩, fun x hx y hy => ?_⟩
    · obtain ⟨i, hi, e⟩ := List.mem_iff_getElem.mp hx
      have hi' : SetTable.below t.place j + i < t.place.size := by simp at hi; omega
      have e' : t.place.getD (SetTable.below t.place j + i) 0 = x := by
        rw [Array.getD_eq_getD_getElem?, getElem?_pos t.place _ hi', ← e]; simp
      have hlow := k3 _ (Nat.le_add_right _ i) hi'
      rw [e'] at hlow
      by_cases hi0 : i = 0
      · subst hi0
        rcases Nat.lt_or_eq_of_le hlow with g | g
        · exact g
        · exfalso; apply hne
          rw [Nat.add_zero] at hi' e'
          rw [getElem?_pos t.place _ hi']
          rw [Array.getD_eq_getD_getElem?, getElem?_pos t.place _ hi'] at e'
          simp at e'
          rw [e', g]
      · have h0 : SetTable.below t.place j < t.place.size := by omega
        have := hT.rise.lt (show SetTable.below t.place j < SetTable.below t.place j + i by omega) hi'
        have := k3 _ (Nat.le_refl _) h0
        omega
    · have hx' : x < j := by
        obtain ⟨i, hi, e⟩ := List.mem_iff_getElem.mp hx
        have hi' : i < SetTable.below t.place j ∧ i < t.place.size := by simp at hi; omega
        have := k2 i hi'.1
        rw [Array.getD_eq_getD_getElem?, getElem?_pos t.place _ hi'.2] at this
        rw [← e]; simpa using this
      rcases List.mem_cons.mp hy with rfl | hy
      · exact hx'
      · obtain ⟨i, hi, e⟩ := List.mem_iff_getElem.mp hy
        have hi' : SetTable.below t.place j + i < t.place.size := by simp at hi; omega
        have := k3 _ (Nat.le_add_right _ i) hi'
        rw [Array.getD_eq_getD_getElem?, getElem?_pos t.place _ hi'] at this
        have e' : t.place[SetTable.below t.place j + i] = y := by rw [← e]; simp
        simp [e'] at this
        omega
  · show (if SetTable.has t.dummies j then _ else t.dummies) = #[]
    rw [hT.dum, has_none]
    rfl

theorem tab_layNew {b : Bool} {t : SetTable} {es : Array (Int × Value)} (hT : TabOk b t es.size) (h : Int) (x : Value) : TabOk b (layNew t es h x).2.1 (layNew t es h x).1.size ∧ (layNew t es h x).2.2.1 = false := by
  have hf := layNew_fits t es h x
  unfold layNew at hf ⊢
  split
  · rename_i slot wd e
    obtain ⟨rfl, hs⟩ := freeSlot_is hT.dum e
    obtain ⟨p1, p2, p3⟩ := tab_put hT hs
    refine ⟨?_, rfl⟩
    dsimp only
    unfold SetTable.orStandIn
    split
    · rename_i hfit
      exact ⟨hfit, p1, p2, p3⟩
    · exact tab_standIn b _ _ p3
  · refine ⟨?_, rfl⟩
    dsimp only
    rw [Array.size_push]
    exact tab_standIn b _ _ hT.led

theorem firsts_sub {α : Type} (g : Nat → Option α) : ∀ l : List Nat, ((l.filterMap fun j => (g j).map (j, ·)).map (·.1)).Sublist l
  | [] => by simp
  | j :: l => by
    rw [List.filterMap_cons]
    cases hg : g j with
    | none => simp only [Option.map_none]; exact (firsts_sub g l).cons j
    | some v => simp only [Option.map_some, List.map_cons]; exact (firsts_sub g l).cons_cons j

theorem tab_relayAll {b : Bool} {t : SetTable} {es : Array (Int × Value)} (hT : TabOk b t es.size) (wanted : Nat) : TabOk b (relayAll t es wanted).2.1 (relayAll t es wanted).1.size := by
  have hf := relayAll_fits t es wanted
  unfold relayAll at hf ⊢
  split
  · rename_i t' order e
    dsimp only at hf ⊢
    split
    · rename_i hc
      simp only [Bool.and_eq_true] at hc
      unfold SetTable.relaid SetTable.laid at e
      simp only [Option.pure_def, Option.bind_eq_bind] at e
      cases ho : SetTable.layClean (SetTable.sizeAbove wanted - 1) (es.map (·.1)) with
      | none => rw [ho] at e; cases e
      | some owner =>
        rw [ho] at e
        simp only [Option.bind_some, Option.some.injEq, Prod.mk.injEq] at e
        obtain ⟨rfl, _⟩ := e
        refine ⟨hc.2, ?_, rfl, hT.led⟩
        exact List.Pairwise.sublist (firsts_sub (fun j => owner.getD j none) _) List.pairwise_lt_range
    · exact tab_standIn b _ _ hT.led
  · exact tab_standIn b _ _ hT.led

theorem tab_fresh (b : Bool) : TabOk b (SetTable.fresh 0 0 b) 0 := ⟨rfl, List.Pairwise.nil, rfl, rfl⟩
end Mine
end

section
open PySem PySem.W PyProof.Rows PySem.Calls PySem.Spec
set_option maxRecDepth 100000
namespace Mine

abbrev setObj (es : Array (Int × Value)) (ep : Nat) (t : SetTable) : Obj := { cls := .type "set", dict := none, data := .set es ep t }

/-- a set of ints: its elements in the table's order, and the table in order -/
def IntSet (prog : Program) (w : World) (h : Heap) (a : Addr) (ks : List Int) : Prop :=
  ∃ es ep t, h.get? a = some (setObj es ep t) ∧ ElemsOf (intKind prog w) es.toList ∧ TabOk (!w.params.followText "set-order") t es.size ∧ (∀ e ∈ es.toList, ∃ n u, e.2 = .int n u) ∧ ks = es.toList.map (fun e => numOf e.2) ∧ ks.Nodup

theorem IntSet.keep {prog : Program} {w : World} {h h' : Heap} {a : Addr} {ks : List Int} (hS : IntSet prog w h a ks) (hk : ∀ o, h.get? a = some o → h'.get? a = some o) : IntSet prog w h' a ks := by
  obtain ⟨es, ep, t, ho, r⟩ := hS
  exact ⟨es, ep, t, hk _ ho, r⟩

section
variable {prog : Program} {w : World} {A : Around} {E : Value → Shared → Prop} {s : Shared}

theorem is_int {k n : Int} {u : Tok} : (intKind prog w).is k (.int n u) = true ↔ k = n := by
  constructor
  · intro e
    exact (intKind prog w).inj _ _ _ e (intKind_is _ _ _ _)
  · rintro rfl; exact intKind_is _ _ _ _

theorem wpAny_gave {b : Bool} {Q : Unit → Shared → Prop} (h : Q () s) : wpAny (model prog w) A (match b with | true => rule "set.scan.the-table-gave-way" | false => pure ()) Q E s := by
  cases b
  · exact wpAny_pure h
  · exact wpAny_rule h

theorem intSet_store {a : Addr} {es es' : Array (Int × Value)} {ep : Nat} {t t' : SetTable} {h : Heap} (ho : h.get? a = some (setObj es ep t)) (hel : ElemsOf (intKind prog w) es'.toList)
    (hT : TabOk (!w.params.followText "set-order") t' es'.size) (hi : ∀ e ∈ es'.toList, ∃ n u, e.2 = .int n u) (hn : (es'.toList.map (fun e => numOf e.2)).Nodup) :
    (h.update a (Obj.putSet es' t')).get? a = some (setObj es' (ep + 1) t') ∧ IntSet prog w (h.update a (Obj.putSet es' t')) a (es'.toList.map (fun e => numOf e.2)) := by
  have hg : (h.update a (Obj.putSet es' t')).get? a = some (setObj es' (ep + 1) t') := by
    have := Heap.get?_update_self (Obj.putSet es' t') ho (by rw [putSet_of es' t' rfl]; rfl)
    rw [putSet_of es' t' rfl] at this; exact this
  exact ⟨hg, es', ep + 1, t', hg, hel, hT, hi, rfl, hn⟩

theorem intSet_add {a : Addr} {ks : List Int} {k : Int} {u : Tok} {Q : Bool → Shared → Prop} (hS : IntSet prog w s.heap a ks) (hroom : ks.length + 1 < scanBound)
    (h : ∀ h' ks' r, Heap.SameBut a s.heap h' → IntSet prog w h' a ks' → (∀ j, j ∈ ks' ↔ (j ∈ ks ∨ j = k)) → Q r { s with heap := h' }) :
    wpAny (model prog w) A (setAddHashed a (.int k u) ((intKind prog w).hash k)) Q E s := by
  obtain ⟨es, ep, t, ho, hel, hT, hi, rfl, hnd⟩ := hS
  have hf := hT.fits
  have hlen : es.size + 1 < scanBound := by simpa using hroom
  have hkey : (intKind prog w).is k (.int k u) = true := intKind_is _ _ _ _
  unfold setAddHashed setAddHashedIn
  refine wpAny_holding (wpAny_bind (wpAny_setState_of ho rfl hf ?_))
  dsimp only
  rw [byScan_of rfl (by omega) hel]
  simp only [if_true]
  unfold setAddByScan
  refine wpAny_bind ?_
  refine wpAny_bind (wpAny_rule ?_)
  refine wpAny_bind (wpAny_setScan_of hkey ho rfl hf hel ?_)
  cases hr : List.findIdx? (fun e => (intKind prog w).is k e.2) es.toList with
  | some j =>
    dsimp only
    obtain ⟨hj, hpj, _⟩ := List.findIdx?_eq_some_iff_getElem.mp hr
    have hmem : k ∈ es.toList.map (fun e => numOf e.2) := by
      obtain ⟨n, v, e⟩ := hi _ (List.getElem_mem hj)
      rw [e] at hpj
      have hkn := is_int.mp hpj
      exact List.mem_map.mpr ⟨_, List.getElem_mem hj, by rw [e, hkn]; rfl⟩
    refine wpAny_pure (wpAny_pure ?_)
    have e : s = { s with heap := s.heap } := by cases s; rfl
    rw [e]
    exact h s.heap _ false (Heap.SameBut.refl a s.heap) ⟨es, ep, t, ho, hel, hT, hi, rfl, hnd⟩ fun j => ⟨.inl, fun x => x.elim id fun y => y ▸ hmem⟩
  | none =>
    dsimp only
    have hnone : k ∉ es.toList.map (fun e => numOf e.2) := fun hm => by
      obtain ⟨e, he, ek⟩ := List.mem_map.mp hm
      obtain ⟨n, v, en⟩ := hi e he
      have := List.findIdx?_eq_none_iff.mp hr e he
      rw [en] at ek this
      rw [show n = k from ek] at this
      rw [intKind_is] at this; cases this
    obtain ⟨hT1, hwd⟩ := tab_layNew hT ((intKind prog w).hash k) (.int k u)
    have hperm := layNew_perm t es ((intKind prog w).hash k) (.int k u)
    generalize layNew t es ((intKind prog w).hash k) (.int k u) = Ln at hT1 hwd hperm ⊢
    obtain ⟨es1, t1, wasDummy, gave⟩ := Ln
    dsimp only at hT1 hwd hperm ⊢
    subst hwd
    rw [Array.toList_push] at hperm
    have hel1 : ElemsOf (intKind prog w) es1.toList := (hel.push hkey rfl).perm hperm
    have hi1 : ∀ e ∈ es1.toList, ∃ n v, e.2 = .int n v := fun e he => by
      rcases List.mem_append.mp (hperm.mem_iff.mp he) with q | q
      · exact hi e q
      · rw [List.mem_singleton] at q; subst q; exact ⟨k, u, rfl⟩
    have hpk : (es1.toList.map (fun e => numOf e.2)).Perm (es.toList.map (fun e => numOf e.2) ++ [k]) := by
      have := hperm.map (fun e => numOf e.2)
      simpa [numOf] using this
    have hn1 : (es1.toList.map (fun e => numOf e.2)).Nodup := hpk.nodup_iff.mpr (List.nodup_append.mpr ⟨hnd, by simp, fun x hx y hy => by
      rw [List.mem_singleton] at hy; subst hy; exact fun e => hnone (e ▸ hx)⟩)
    have hm1 : ∀ j, j ∈ es1.toList.map (fun e => numOf e.2) ↔ (j ∈ es.toList.map (fun e => numOf e.2) ∨ j = k) := fun j => by
      rw [hpk.mem_iff, List.mem_append, List.mem_singleton]
    have hs1 : es1.size < scanBound := by rw [← Array.length_toList, hperm.length_eq, List.length_append, Array.length_toList]; exact hlen
    -- once the table with the new element is chosen
    have rest : ∀ t2, TabOk (!w.params.followText "set-order") t2 es1.size → wpAny (model prog w) A (do
        storeSet a es1 t2
        if (!false && t2.tooFull) = true then do
            (match (relayAll t2 es1 (SetTable.grown es1.size)).2.2 with | true => rule "set.scan.the-table-gave-way" | false => pure ())
            storeSet a (relayAll t2 es1 (SetTable.grown es1.size)).1 (relayAll t2 es1 (SetTable.grown es1.size)).2.1
            pure (some true)
          else pure (some true)) (fun r s' => ∃ h' ks', r = some true ∧ s' = { s with heap := h' } ∧ Heap.SameBut a s.heap h' ∧ IntSet prog w h' a ks' ∧ ∀ j, j ∈ ks' ↔ (j ∈ es.toList.map (fun e => numOf e.2) ∨ j = k)) E s := by
      intro t2 hT2
      refine wpAny_bind (wpAny_storeSet_of ho rfl ?_ (fits_of_scanBound hs1))
      obtain ⟨ho2, hS2⟩ := intSet_store ho hel1 hT2 hi1 hn1
      have hsb := Heap.SameBut.update s.heap a (Obj.putSet es1 t2)
      split
      · have hp := relayAll_perm t2 es1 (SetTable.grown es1.size)
        have hT3 := tab_relayAll hT2 (SetTable.grown es1.size)
        generalize relayAll t2 es1 (SetTable.grown es1.size) = Rl at hp hT3 ⊢
        obtain ⟨es3, t3, g3⟩ := Rl
        dsimp only at hp hT3 ⊢
        refine wpAny_bind (wpAny_gave ?_)
        have hs3 : es3.size < scanBound := by rw [← Array.length_toList, hp.length_eq, Array.length_toList]; exact hs1
        refine wpAny_bind (wpAny_storeSet_of ho2 rfl ?_ (fits_of_scanBound hs3))
        have hpk3 := hp.map (fun e => numOf e.2)
        obtain ⟨ho3, hS3⟩ := intSet_store ho2 (hel1.perm hp) hT3 (fun e he => hi1 e (hp.mem_iff.mp he)) (hpk3.nodup_iff.mpr hn1)
        exact wpAny_pure ⟨_, _, rfl, rfl, hsb.trans (Heap.SameBut.update _ a _), hS3, fun j => by rw [hpk3.mem_iff]; exact hm1 j⟩
      · exact wpAny_pure ⟨_, _, rfl, rfl, hsb, hS2, hm1⟩
    have fin : ∀ r s', (∃ h' ks', r = some true ∧ s' = { s with heap := h' } ∧ Heap.SameBut a s.heap h' ∧ IntSet prog w h' a ks' ∧ ∀ j, j ∈ ks' ↔ (j ∈ es.toList.map (fun e => numOf e.2) ∨ j = k)) →
        r = some true ∧ Q true s' := by
      rintro r s' ⟨h', ks', rfl, rfl, x1, x2, x3⟩
      exact ⟨rfl, h h' ks' true x1 x2 x3⟩
    refine wpAny_bind (wpAny_gave ?_)
    split
    · refine wpAny_bind ?_
      rw [hashByValue_scannable 8 (x := .int k u) rfl]
      refine wpAny_pure ?_
      refine wpAny_mono (rest _ ?_) (fun r s' hr => ?_) fun _ _ e => e
      · split
        · exact hT1
        · exact hT1.plainOff
      · obtain ⟨rfl, hq⟩ := fin r s' hr
        exact wpAny_pure hq
    · refine wpAny_bind (wpAny_pure ?_)
      simp only [if_true]
      refine wpAny_mono (rest _ hT1) (fun r s' hr => ?_) fun _ _ e => e
      obtain ⟨rfl, hq⟩ := fin r s' hr
      exact wpAny_pure hq
end
end Mine
end

section
open PySem PySem.W PyProof.Rows PySem.Calls PySem.Spec
set_option maxRecDepth 100000
namespace Mine

section
variable {prog : Program} {w : World} {A : Around} {E : Value → Shared → Prop} {s : Shared}

theorem nodup_len {ks l : List Int} (h : ks.Nodup) (hs : ∀ j, j ∈ ks → j ∈ l) : ks.length ≤ l.length := List.Nodup.length_le_of_subset h hs

/-- set.update.loop over a list of ints -/
theorem set_loop {R : Result → Shared → Prop} {I l S : Addr} (hh : A.handled = none) (hlI : l ≠ I) (hSl : S ≠ l) (hSI : S ≠ I) {items : Array Value} {ns : List Int} (hi : IntsAre items.toList ns) (hb : ns.length + 1 < scanBound) :
    ∀ (k i : Nat) (s : Shared) (ks : List Int), ns.length - i = k → i ≤ ns.length → s.heap.IsListIter I l i → s.heap.IsList l items → IntSet prog w s.heap S ks → ks.Nodup → (∀ j, j ∈ ks ↔ j ∈ ns.take i) →
      (∀ h' tk ks', (∀ b o, b ≠ S → b ≠ I → s.heap.get? b = some o → h'.get? b = some o) → IntSet prog w h' S ks' → (∀ j, j ∈ ks' ↔ j ∈ ns) → R (.ok (.ret .none)) { s with heap := h', toks := tk }) →
      codeAny (model prog w) A (.builtin "set.update.loop" ⟨[.ref S, .ref I], []⟩) R s := by
  have hlen : items.size = ns.length := by rw [← Array.length_toList]; exact hi.length
  intro k
  induction k with
  | zero =>
    intro i s ks hk hin hit hl hS hnd hm hR
    have : i = ns.length := by omega
    subst this
    refine codeAny_builtin PyProof.Rows.F.entry_set_update_loop ?_
    rw [Around.under_plainId PyProof.Rows.F.plain_set_update_loop _]
    show wpAny _ A.in1 (pyNext (.ref I) >>= _) _ _ s
    refine wpAny_bind (wpAny_pyNext_list_end (by simpa using hh) hit hl (by rw [Array.getElem?_eq_none]; omega) fun h' he => ?_)
    show wpAny _ A.in1 (ret Value.none) _ _ _
    refine wpAny_pure (hR h' s.toks ks (fun b o _ hbI e => he b o hbI e) (hS.keep fun o e => he S o hSI e) fun j => ?_)
    rw [hm j, List.take_length]
  | succ k ih =>
    intro i s ks hk hin hit hl hS hnd hm hR
    have hlt : i < ns.length := by omega
    refine codeAny_builtin PyProof.Rows.F.entry_set_update_loop ?_
    rw [Around.under_plainId PyProof.Rows.F.plain_set_update_loop _]
    show wpAny _ A.in1 (pyNext (.ref I) >>= _) _ _ s
    refine wpAny_bind (wpAny_pyNext_list_item hit hl (x := items[i]) (getElem?_pos items i (by omega)) fun h1 hit1 hs1 => ?_)
    obtain ⟨u, eu⟩ := IntsAre.int_at hi i items[i] (by rw [Array.getElem?_toList]; exact getElem?_pos items i (by omega))
    rw [eu]
    have egd : ns.getD i 0 = ns[i] := by simp [hlt]
    show wpAny _ A.in1 (holding [Value.int (ns.getD i 0) u] (setAdd S (.int (ns.getD i 0) u)) >>= _) _ _ _
    refine wpAny_bind (wpAny_holding ?_)
    unfold setAdd
    refine wpAny_holding ?_
    refine wpAny_bind ((intKind prog w).pyHash (k := ns.getD i 0) (intKind_is _ _ _ _) ?_)
    have hS1 : IntSet prog w h1 S ks := hS.keep fun o e => hs1.extBut S o hSI e
    have hkl : ks.length ≤ i := by
      have := nodup_len hnd fun j hj => (hm j).mp hj
      rw [List.length_take] at this; omega
    refine intSet_add (s := { s with heap := h1, toks := s.toks + 1 }) hS1 (by omega) fun h2 ks2 r hsb hS2 hm2 => ?_
    have hl2 : h2.IsList l items := (hl.extBut hs1.extBut hlI).extBut hsb.extBut (Ne.symm hSl)
    have hit2 : h2.IsListIter I l (i + 1 : Nat) := hit1.at fun o e => hsb.extBut I o (Ne.symm hSI) e
    have hnd2 : ks2.Nodup := by obtain ⟨_, _, _, _, _, _, _, _, q⟩ := hS2; exact q
    refine wpAny_pure ⟨plainId_quiet PyProof.Rows.F.plain_set_update_loop _, ih (i + 1) { s with heap := h2, toks := s.toks + 1 } ks2 (by omega) (by omega) hit2 hl2 hS2 hnd2 (fun j => ?_) fun h3 tk ks3 hk3 hS3 hm3 => ?_⟩
    · rw [hm2, hm, List.take_succ_eq_append_getElem hlt, List.mem_append, List.mem_singleton, egd]
    · exact hR h3 tk ks3 (fun b o hbS hbI e => hk3 b o hbS hbI (hsb.extBut b o hbS (hs1.extBut b o hbI e))) hS3 hm3

theorem code_set_new_led (a : Value) {Q₁ : Value → Shared → Prop}
    (h : Q₁ (.ref s.heap.objs.size) { s with heap := s.heap.push (setObj #[] 0 (.fresh 0 0 (!w.params.followText "set-order"))) }) :
    codeAny (model prog w) A (.call (.builtin "set.__new__") ⟨[.type "set", a], []⟩) (wants Q₁ E) s := by
  refine codeAny_of_tree ?_
  show wpAny _ A.in1 (do checkBuiltinCall "set.__new__" ⟨[.type "set", a], []⟩; again (.builtin "set.__new__" ⟨[.type "set", a], []⟩)) _ _ s
  refine wpAny_bind (wpAny_of_eq (F.newCall_set_1 a) (wpAny_pure ⟨plainId_quiet F.plain_set_new _, codeAny_builtin F.entry_set_new ?_⟩))
  rw [Around.under_plainId F.plain_set_new _]
  unfold Builtin.«set.__new__» Builtin.Frozenset.newClass
  have hsub := sub_set_self
  obtain ⟨hp, g, d, tk, os⟩ := s
  dsimp only
  wp_walk
  refine wpAny_askSetting (wpAny_pure ?_)
  dsimp only
  simp only [newObj]
  refine wpAny_bind (wpAny_alloc (wpAny_pure ?_))
  exact wpAny_pure h

set_option maxHeartbeats 3200000 in
/-- set(l) of a list of ints -/
theorem set_of_list {l : Addr} {items : Array Value} {ns : List Int} {Q : Value → Shared → Prop}
    (hh : A.handled = none) (hl : s.heap.IsList l items) (hi : IntsAre items.toList ns) (hb : ns.length + 1 < scanBound)
    (h : ∀ (h' : Heap) (tk : Nat) (ks : List Int), IntSet prog w h' s.heap.objs.size ks → (∀ j, j ∈ ks ↔ j ∈ ns) → (∀ b o, s.heap.get? b = some o → h'.get? b = some o) → Q (.ref s.heap.objs.size) { s with heap := h', toks := tk }) :
    wpAny (model prog w) A (call (.type "set") [.ref l]) Q E s := by
  obtain ⟨c, tl, hmro⟩ := F.called_set.mro
  have hmade := F.called_set.made
  have hsub := F.called_set.sub
  refine wpAny_call (codeAny_of_tree ?_)
  show wpAny _ _ (callAny (.type "set") _) _ _ _
  refine wpAny_pure ⟨Code.quiet_builtin _ (by decide +kernel), codeAny_builtin F.entry_type_call ?_⟩
  rw [Around.under_plain (weight_type_call_type "set" [.ref l] []) rfl]
  have h1 := F.called_set.notType
  have h2 := F.called_set.canCreate
  have hct := F.typeCall_set_1 (.ref l)
  repeat (any_goals (first | assumption | wp_step))
  refine codeAny_mono (code_set_new_led (.ref l) (E := E) (Q₁ := fun obj s₁ => obj = .ref s.heap.objs.size ∧ s₁ = { s with heap := s.heap.push (setObj #[] 0 (.fresh 0 0 (!w.params.followText "set-order"))) }) ⟨rfl, rfl⟩) fun r s₁ hr => ?_
  cases r with
  | error e => exact hr
  | ok fl =>
    cases fl with
    | ret obj =>
      obtain ⟨rfl, rfl⟩ := hr
      have hS : (s.heap.push (setObj #[] 0 (.fresh 0 0 (!w.params.followText "set-order")))).get? s.heap.objs.size = some (setObj #[] 0 (.fresh 0 0 (!w.params.followText "set-order"))) := Heap.get?_push_size _ rfl
      have hT : Shared.TypeIs { s with heap := s.heap.push (setObj #[] 0 (.fresh 0 0 (!w.params.followText "set-order"))) } (.ref s.heap.objs.size) "set" := ⟨_, hS, rfl⟩
      have hli := F.called_set.init.lookup
      have hbi := F.called_set.init.bind (.ref s.heap.objs.size)
      repeat (any_goals (first | assumption | wp_step))
      refine codeAny_mono (codeAny_call_builtin (R := wants (fun r s₂ => r = .none ∧ ∃ h' tk ks, s₂ = { s with heap := h', toks := tk } ∧
          IntSet prog w h' s.heap.objs.size ks ∧ (∀ j, j ∈ ks ↔ j ∈ ns) ∧ (∀ b o, s.heap.get? b = some o → h'.get? b = some o)) E) F.called_set.init.plain F.entry_set_init (check_set_init_1 hT ?_)) fun r₂ s₂ hr₂ => ?_
      · obtain ⟨ol, hol, hcl, nl, hdl⟩ := hl
        obtain ⟨ocls, odict, odata, oslots⟩ := ol
        simp only at hcl hdl
        subst hcl; subst hdl
        have hol' : (s.heap.push (setObj #[] 0 (.fresh 0 0 (!w.params.followText "set-order")))).get? l = some { cls := .type "list", dict := odict, data := .seq items nl, slots := oslots } := Heap.get?_push_of_some _ hol
        have hsls := F.sub_list_set
        have hslf := F.sub_list_frozenset
        have hne : (Value.type "list" == Value.type "dict") = false := by decide
        have hl1 : (s.heap.push (setObj #[] 0 (.fresh 0 0 (!w.params.followText "set-order")))).IsList l items := ⟨_, hol', rfl, nl, rfl⟩
        unfold Builtin.«set.__init__» noKeywords Builtin.Frozenset.updateFrom
        generalize hPI : pyIter = PI
        wp_walk
        subst hPI
        refine wpAny_pyIter_list hl1 ?_
        refine wpAny_bind (wpAny_runValue ?_)
        have hlS : l < s.heap.objs.size := Heap.lt_size hol
        have hneI : l ≠ (s.heap.push (setObj #[] 0 (.fresh 0 0 (!w.params.followText "set-order")))).objs.size := by
          rw [Heap.size_push]; exact Nat.ne_of_lt (Nat.lt_succ_of_lt hlS)
        have hSI : s.heap.objs.size ≠ (s.heap.push (setObj #[] 0 (.fresh 0 0 (!w.params.followText "set-order")))).objs.size := by
          rw [Heap.size_push]; exact Nat.ne_of_lt (Nat.lt_succ_self _)
        refine set_loop (by simp [hh]) hneI (Nat.ne_of_gt hlS) hSI hi hb ns.length 0 _ [] (by omega) (Nat.zero_le _) ⟨_, Heap.get?_push_size _ rfl, rfl, rfl⟩ (hl1.push _) ?_ .nil (by simp) fun h' tk ks hk hS' hm => ?_
        · exact ⟨#[], 0, _, Heap.get?_push_of_some _ hS, fun e he => by simp at he, tab_fresh _, fun e he => by simp at he, rfl, .nil⟩
        · show wpAny _ _ _ _ _ _
          refine wpAny_pure ?_
          show wpAny _ _ (ret Value.none) _ _ _
          refine wpAny_pure ⟨rfl, h', tk, ks, rfl, hS', hm, fun b o e => ?_⟩
          have hb := Heap.lt_size e
          refine hk b o (Nat.ne_of_lt hb) ?_ (Heap.get?_push_of_some _ (Heap.get?_push_of_some _ e))
          rw [Heap.size_push]; exact Nat.ne_of_lt (Nat.lt_succ_of_lt hb)
      · cases r₂ with
        | error e => exact hr₂
        | ok fl₂ =>
          cases fl₂ with
          | ret r =>
            obtain ⟨rfl, h', tk, ks, rfl, hS', hm, hk'⟩ := hr₂
            repeat (any_goals (first | assumption | wp_step))
            exact h _ _ _ hS' hm hk'
          | _ => exact hr₂.elim
    | _ => exact hr.elim
end
end Mine
end

section
open PySem PySem.W PyProof.Rows PySem.Calls PySem.Spec
set_option maxRecDepth 100000
namespace Mine

theorem slot_si_next : Slot "set_iterator" "__next__" "set_iterator.__next__" :=
  .of (owner := "set_iterator") (n := "__next__") (by rw [typeLookup_type, builtinLookup_eq_fast]; kernel_rfl) (by decide +kernel) (by decide +kernel) (by decide +kernel)
    (by first | exact .inl (by decide +kernel) | exact .inr (by decide +kernel)) (by rw [isSubtype_type]; kernel_rfl)
theorem slot_si_iter : Slot "set_iterator" "__iter__" "set_iterator.__iter__" :=
  .of (owner := "set_iterator") (n := "__iter__") (by rw [typeLookup_type, builtinLookup_eq_fast]; kernel_rfl) (by decide +kernel) (by decide +kernel) (by decide +kernel)
    (by first | exact .inl (by decide +kernel) | exact .inr (by decide +kernel)) (by rw [isSubtype_type]; kernel_rfl)
theorem entry_si_next : entryFor table "set_iterator.__next__" = some Builtin.«set_iterator.__next__» := entryFor_of_fast (by kernel_rfl)
theorem args_si_next (a : Value) : argsOk "set_iterator.__next__" ⟨[a], []⟩ := by unfold argsOk; kernel_rfl
theorem entry_set_iter : entryFor table "set.__iter__" = some Builtin.«frozenset.__iter__» :=
  entryFor_alias (id' := "frozenset.__iter__") (by kernel_rfl) rfl (by decide +kernel) (by kernel_rfl)

theorem erase_perm {α : Type} : ∀ {l : List α} {i : Nat} (h : i < l.length), (l[i] :: l.eraseIdx i).Perm l
  | x :: r, 0, _ => List.Perm.refl _
  | x :: r, i + 1, h => by
    rw [List.eraseIdx_cons_succ, List.getElem_cons_succ]
    exact (List.Perm.swap x _ _).trans (List.Perm.cons x (erase_perm (by simpa using h)))

theorem pick_go {α : Type} (next : Nat → Nat) : ∀ (fuel k : Nat) (left : List α) (out : Array α), left.length ≤ fuel → (pickOrder.go next fuel k left out).toList.Perm (out.toList ++ left)
  | 0, k, left, out, h => by
    have : left = [] := List.length_eq_zero_iff.mp (by omega)
    subst this
    unfold pickOrder.go
    simp
  | fuel + 1, k, left, out, h => by
    unfold pickOrder.go
    cases left with
    | nil => simp
    | cons x r =>
      have hlt : next k % (x :: r).length < (x :: r).length := Nat.mod_lt _ (by simp)
      rw [List.getElem?_eq_getElem hlt]
      dsimp only
      refine (pick_go next fuel (k + 1) _ _ (by rw [List.length_eraseIdx_of_lt hlt]; simp at h ⊢; omega)).trans ?_
      rw [Array.toList_push, List.append_assoc]
      exact List.Perm.append_left _ (erase_perm hlt)

theorem pick_perm {α : Type} (next : Nat → Nat) (xs : Array α) : (pickOrder next xs).toList.Perm xs.toList := by
  have := pick_go next xs.size 0 xs.toList #[] (by simp)
  simpa [pickOrder] using this

section
variable {prog : Program} {w : World} {A : Around} {E : Value → Shared → Prop} {s : Shared}

theorem wpAny_choose {M : Model} {src : Source} {n : Nat} {Q : Nat → Shared → Prop} (hn : n ≠ 0) (h : ∀ i d, i < n → Q i { s with drawn := d }) : wpAny M A (choose src n) Q E s :=
  fun _ _ _ => ⟨hn, h _ _ (Nat.mod_lt _ (Nat.pos_of_ne_zero hn))⟩

theorem wpAny_byText {Q : Bool → Shared → Prop} (h : Q (w.params.followText "set-order") s) : wpAny (model prog w) A setsByText Q E s := by
  unfold setsByText
  exact wpAny_bind (wpAny_askSetting (wpAny_pure h))

theorem wpAny_drawOrder : ∀ (n : Nat) (xs : List Nat) {s : Shared} {Q : List Nat → Shared → Prop}, xs.length ≤ n → (∀ ys d, ys.Perm xs → Q ys { s with drawn := d }) → wpAny (model prog w) A (drawOrder n xs) Q E s
  | 0, xs, s, Q, hl, h => by
    have : xs = [] := List.length_eq_zero_iff.mp (by omega)
    subst this
    unfold drawOrder
    exact wpAny_pure (h [] s.drawn (List.Perm.refl _))
  | n + 1, [], s, Q, hl, h => by
    unfold drawOrder
    exact wpAny_pure (h [] s.drawn (List.Perm.refl _))
  | n + 1, x :: r, s, Q, hl, h => by
    unfold drawOrder
    refine wpAny_bind (wpAny_choose (by simp) fun i d hi => ?_)
    rw [List.getElem?_eq_getElem hi]
    dsimp only
    refine wpAny_bind (wpAny_drawOrder n _ (by rw [List.length_eraseIdx_of_lt hi]; simp at hl ⊢; omega) fun ys d' hp => ?_)
    exact wpAny_pure (h _ d' ((List.Perm.cons _ hp).trans (erase_perm hi)))

theorem slots_next {a : Addr} {es : Array (Int × Value)} {ep : Nat} {t : SetTable} (ho : s.heap.get? a = some (setObj es ep t)) (hT : TabOk (!w.params.followText "set-order") t es.size)
    (hnt : w.params.followText "set-order" = false) (hdr : (!t.plain && decide (es.size > 1)) = false) {c i : Nat} (hi : i ≤ es.size) (hc : c = if i = 0 then 0 else t.place.getD (i - 1) 0 + 1) {Q : Option (Value × Nat) → Shared → Prop}
    (h : Q (es[i]?.map fun e => (e.2, t.place.getD i 0 + 1)) s) : wpAny (model prog w) A (setNext a c i ep) Q E s := by
  have hsz := hT.size
  have hb : SetTable.below t.place c = i := by
    refine below_eq (by omega) (fun j hj => ?_) fun j h1 h2 => ?_
    · rw [hc, if_neg (by omega)]
      rcases Nat.lt_or_ge j (i - 1) with e | e
      · have := hT.rise.lt e (by omega)
        omega
      · rw [show j = i - 1 by omega]
        omega
    · rw [hc]
      by_cases hi0 : i = 0
      · rw [if_pos hi0]; omega
      · rw [if_neg hi0]
        have := hT.rise.lt (show i - 1 < j by omega) h2
        omega
  unfold setNext
  refine wpAny_bind (wpAny_setState_of ho rfl hT.fits ?_)
  dsimp only
  refine wpAny_bind (wpAny_byText ?_)
  rw [hnt]
  simp only [Bool.false_eq_true, if_false]
  split
  · rename_i hd
    exact absurd (show (!t.plain && decide (es.size > 1)) = true from hd) (by rw [hdr]; decide)
  have hled : t.led = true := by rw [hT.led, hnt]; rfl
  refine wpAny_bind ?_
  show wpAny _ _ (if (!t.led && !es.isEmpty) = true then unsupported "set:maker-not-led" else pure ()) _ _ _
  rw [if_neg (by rw [hled]; simp)]
  refine wpAny_pure (wpAny_pure ?_)
  rw [hb]
  rcases Nat.lt_or_ge i es.size with hlt | hge
  · rw [getElem?_pos es i hlt, getElem?_pos t.place i (by omega)] at *
    rw [Array.getD_eq_getD_getElem?, getElem?_pos t.place i (by omega)] at h
    exact h
  · rw [Array.getElem?_eq_none hge] at *
    exact h
end
end Mine
end

section
open PySem PySem.W PyProof.Rows PySem.Calls PySem.Spec
set_option maxRecDepth 100000
namespace Mine

def IsSI (h : Heap) (I : Addr) (first : Value) (i : Nat) (a : Addr) (n ep : Nat) : Prop :=
  ∃ o, h.get? I = some o ∧ o.cls = .type "set_iterator" ∧ o.data = .fields #[first, .int i 0, .ref a, .int n 0, .int ep 0]

section
variable {prog : Program} {w : World} {A : Around} {E : Value → Shared → Prop} {s : Shared}

theorem IsSI.typeIs {I : Addr} {first : Value} {i : Nat} {a : Addr} {n ep : Nat} (h : IsSI s.heap I first i a n ep) : s.TypeIs (.ref I) "set_iterator" := let ⟨o, ho, hc, _⟩ := h; ⟨o, ho, hc⟩
theorem IsSI.keep {h h' : Heap} {I : Addr} {first : Value} {i : Nat} {a : Addr} {n ep : Nat} (x : IsSI h I first i a n ep) (k : ∀ o, h.get? I = some o → h'.get? I = some o) : IsSI h' I first i a n ep :=
  let ⟨o, ho, r⟩ := x; ⟨o, k o ho, r⟩

theorem text_next {a : Addr} {es : Array (Int × Value)} {ep : Nat} {t : SetTable} (ho : s.heap.get? a = some (setObj es ep t)) (hf : t.fits es.size = true)
    (hbt : w.params.followText "set-order" = true) {c i : Nat} {Q : Option (Value × Nat) → Shared → Prop}
    (h : Q ((pickOrder (w.params.setOrder a ep) es)[i]?.map fun e => (e.2, c)) s) : wpAny (model prog w) A (setNext a c i ep) Q E s := by
  unfold setNext
  refine wpAny_bind (wpAny_setState_of ho rfl hf ?_)
  dsimp only
  refine wpAny_bind (wpAny_byText ?_)
  rw [hbt]
  simp only [if_true, bne_self_eq_false, Bool.false_eq_true, if_false]
  refine wpAny_bind ?_
  unfold setWalk
  refine wpAny_bind (wpAny_setState_of ho rfl hf ?_)
  dsimp only
  refine wpAny_bind (wpAny_byText ?_)
  rw [hbt]
  simp only [if_true]
  refine wpAny_bind (wpAny_askSetting (wpAny_pure ?_))
  exact wpAny_pure h

/-- the iterator is put on by one -/
theorem SI_update {h : Heap} {I : Addr} {first v z : Value} {i j : Nat} {a : Addr} {n ep : Nat} (x : IsSI h I first i a n ep) (k : Nat) (hk : k < 2) (e : (#[first, .int i 0, .ref a, .int n 0, .int ep 0] : Array Value).setIfInBounds k v = #[z, .int j 0, .ref a, .int n 0, .int ep 0]) :
    IsSI (h.update I (Obj.mapFields (·.setIfInBounds k v))) I z j a n ep := by
  obtain ⟨o, ho, hc, hd⟩ := x
  exact ⟨_, Heap.get?_update_self _ ho (Obj.isFreed_of_fields (Obj.data_mapFields hd _)), (Obj.cls_mapFields ..).trans hc, by rw [Obj.data_mapFields hd, e]⟩

theorem next_int {I a : Addr} {c c' i n ep : Nat} {x : Value} {es : Array (Int × Value)} {t : SetTable} {Q : Option Value → Shared → Prop} (hit : IsSI s.heap I (.int c 0) i a n ep) (hset : s.heap.get? a = some (setObj es ep t)) (hf : t.fits es.size = true) (hn : n = es.size)
    (hnx : ∀ (A : Around) (E : Value → Shared → Prop) (Q : Option (Value × Nat) → Shared → Prop), Q (some (x, c')) s → wpAny (model prog w) A (setNext a c i ep) Q E s)
    (hQ : ∀ h', IsSI h' I (.int c' 0) (i + 1) a n ep → Heap.SameBut I s.heap h' → Q (some x) { s with heap := h' }) : wpAny (model prog w) A (pyNext (.ref I)) Q E s := by
  have hit' := hit
  obtain ⟨o, ho, hc, hd⟩ := hit
  unfold pyNext
  refine wpAny_bind (wpAny_attempt (wpAny_callSpecial?_slot (name := Str.ofString "__next__") hit'.typeIs slot_si_next
    (wpAny_call_entry slot_si_next hit'.typeIs entry_si_next ?_ (args_si_next _))))
  unfold Builtin.«set_iterator.__next__»
  refine wpAny_bind (wpAny_pure ?_)
  refine wpAny_bind (wpAny_fieldsOf ho hd ?_)
  dsimp only
  refine wpAny_bind (wpAny_setEntries_of hset rfl hf ?_)
  rw [hn]
  simp only [bne_self_eq_false, Bool.false_eq_true, if_false, Int.toNat_natCast]
  refine wpAny_bind (hnx _ _ _ ?_)
  dsimp only
  refine wpAny_bind (wpAny_setField ho hd (by simp) ?_)
  have h1 := SI_update (j := i) (z := .int c' 0) (v := .int c' 0) hit' 0 (by omega) (by simp)
  obtain ⟨o1, ho1, hc1, hd1⟩ := id h1
  refine wpAny_bind (wpAny_setField (s := { s with heap := s.heap.update I (Obj.mapFields (·.setIfInBounds 0 (.int c' 0))) }) ho1 hd1 (by simp) ?_)
  have h2 := SI_update (j := i + 1) (z := .int c' 0) (v := rawInt ((i : Int) + 1)) h1 1 (by omega) (by simp [rawInt])
  exact wpAny_pure ⟨x, rfl, wpAny_pure (hQ _ h2 ((Heap.SameBut.update ..).trans (Heap.SameBut.update ..)))⟩

theorem next_int_end {I a : Addr} {c i n ep : Nat} {es : Array (Int × Value)} {t : SetTable} {Q : Option Value → Shared → Prop} (hh : A.handled = none) (hit : IsSI s.heap I (.int c 0) i a n ep) (hset : s.heap.get? a = some (setObj es ep t)) (hf : t.fits es.size = true) (hn : n = es.size)
    (hnx : ∀ (A : Around) (E : Value → Shared → Prop) (Q : Option (Value × Nat) → Shared → Prop), Q none s → wpAny (model prog w) A (setNext a c i ep) Q E s)
    (hQ : ∀ h', Heap.ExtBut I s.heap h' → Q none { s with heap := h' }) : wpAny (model prog w) A (pyNext (.ref I)) Q E s := by
  have hit' := hit
  obtain ⟨o, ho, hc, hd⟩ := hit
  unfold pyNext
  refine wpAny_bind (wpAny_attempt (wpAny_callSpecial?_slot (name := Str.ofString "__next__") hit'.typeIs slot_si_next
    (wpAny_call_entry slot_si_next hit'.typeIs entry_si_next ?_ (args_si_next _))))
  unfold Builtin.«set_iterator.__next__»
  refine wpAny_bind (wpAny_pure ?_)
  refine wpAny_bind (wpAny_fieldsOf ho hd ?_)
  dsimp only
  refine wpAny_bind (wpAny_setEntries_of hset rfl hf ?_)
  rw [hn]
  simp only [bne_self_eq_false, Bool.false_eq_true, if_false, Int.toNat_natCast]
  refine wpAny_bind (hnx _ _ _ ?_)
  dsimp only
  refine wpAny_bind (wpAny_setField ho hd (by simp) ?_)
  show wpAny _ _ (newExc (.type "StopIteration") [] >>= _) _ _ _
  refine wpAny_bind ?_
  simp only [newExc, newTuple]
  refine wpAny_bind (wpAny_newObj_type ?_ (by size_fits))
  refine wpAny_bind (m := firstArgMember _ _) (wpAny_of_eq (a := Value.none) (by first | rfl | (simp only [firstArgMember]; rfl)) ?_)
  refine wpAny_newObj_type ?_ (by size_fits)
  simp only [raiseNew]
  refine wpAny_bind (wpAny_handled ?_)
  rw [show A.in1.handled = none by simpa using hh]
  refine wpAny_bind (wpAny_pure (wpAny_throw ?_))
  refine wpAny_bind (wpAny_isInstance (T := "StopIteration") (b := true) ⟨_, Heap.get?_push_size _ rfl, rfl⟩ isSubtype_stop ?_)
  exact wpAny_pure (hQ _ (((Heap.SameBut.update ..).extBut.push _).push _))

theorem next_ref {I a T : Addr} {i n ep p : Nat} {x : Value} {es : Array (Int × Value)} {t : SetTable} {oT : Obj} {ps : Array Value} {c : Nat} {Q : Option Value → Shared → Prop} (hit : IsSI s.heap I (.ref T) i a n ep) (hset : s.heap.get? a = some (setObj es ep t)) (hf : t.fits es.size = true) (hn : n = es.size)
    (hT : s.heap.get? T = some oT) (hTd : oT.data = .seq ps c) (hp : ps[i]? = some (.int p 0)) (hx : (es[p]?.map (·.2)) = some x)
    (hQ : ∀ h', IsSI h' I (.ref T) (i + 1) a n ep → Heap.SameBut I s.heap h' → Q (some x) { s with heap := h' }) : wpAny (model prog w) A (pyNext (.ref I)) Q E s := by
  have hit' := hit
  obtain ⟨o, ho, hc, hd⟩ := hit
  obtain ⟨e, he, rfl⟩ := Option.map_eq_some_iff.mp hx
  unfold pyNext
  refine wpAny_bind (wpAny_attempt (wpAny_callSpecial?_slot (name := Str.ofString "__next__") hit'.typeIs slot_si_next
    (wpAny_call_entry slot_si_next hit'.typeIs entry_si_next ?_ (args_si_next _))))
  unfold Builtin.«set_iterator.__next__»
  refine wpAny_bind (wpAny_pure ?_)
  refine wpAny_bind (wpAny_fieldsOf ho hd ?_)
  dsimp only
  refine wpAny_bind (wpAny_setEntries_of hset rfl hf ?_)
  rw [hn]
  simp only [bne_self_eq_false, Bool.false_eq_true, if_false, Int.toNat_natCast]
  refine wpAny_bind (wpAny_seqItems hT hTd ?_)
  dsimp only
  rw [hp]
  dsimp only
  simp only [Int.toNat_natCast]
  refine wpAny_bind ?_
  unfold setNextDrawn
  refine wpAny_bind (wpAny_setState_of hset rfl hf ?_)
  dsimp only
  simp only [bne_self_eq_false, Bool.false_eq_true, if_false]
  rw [he]
  dsimp only
  refine wpAny_pure ?_
  refine wpAny_bind (wpAny_setField ho hd (by simp) ?_)
  have h2 := SI_update (j := i + 1) (z := .ref T) (v := rawInt ((i : Int) + 1)) hit' 1 (by omega) (by simp [rawInt])
  exact wpAny_pure ⟨_, rfl, wpAny_pure (hQ _ h2 (Heap.SameBut.update ..))⟩

theorem next_ref_end {I a T : Addr} {i n ep : Nat} {es : Array (Int × Value)} {t : SetTable} {oT : Obj} {ps : Array Value} {c : Nat} {Q : Option Value → Shared → Prop} (hh : A.handled = none) (hit : IsSI s.heap I (.ref T) i a n ep) (hset : s.heap.get? a = some (setObj es ep t)) (hf : t.fits es.size = true) (hn : n = es.size)
    (hT : s.heap.get? T = some oT) (hTd : oT.data = .seq ps c) (hp : ps[i]? = none)
    (hQ : ∀ h', Heap.ExtBut I s.heap h' → Q none { s with heap := h' }) : wpAny (model prog w) A (pyNext (.ref I)) Q E s := by
  have hit' := hit
  obtain ⟨o, ho, hc, hd⟩ := hit
  unfold pyNext
  refine wpAny_bind (wpAny_attempt (wpAny_callSpecial?_slot (name := Str.ofString "__next__") hit'.typeIs slot_si_next
    (wpAny_call_entry slot_si_next hit'.typeIs entry_si_next ?_ (args_si_next _))))
  unfold Builtin.«set_iterator.__next__»
  refine wpAny_bind (wpAny_pure ?_)
  refine wpAny_bind (wpAny_fieldsOf ho hd ?_)
  dsimp only
  refine wpAny_bind (wpAny_setEntries_of hset rfl hf ?_)
  rw [hn]
  simp only [bne_self_eq_false, Bool.false_eq_true, if_false, Int.toNat_natCast]
  refine wpAny_bind (wpAny_seqItems hT hTd ?_)
  dsimp only
  rw [hp]
  dsimp only
  refine wpAny_bind (wpAny_setField ho hd (by simp) ?_)
  have h1 := SI_update (j := i) (z := .int 0 0) (v := .int 0 0) hit' 0 (by omega) (by simp)
  obtain ⟨o1, ho1, hc1, hd1⟩ := id h1
  refine wpAny_bind (wpAny_setField (s := { s with heap := s.heap.update I (Obj.mapFields (·.setIfInBounds 0 (.int 0 0))) }) ho1 hd1 (by simp) ?_)
  show wpAny _ _ (newExc (.type "StopIteration") [] >>= _) _ _ _
  refine wpAny_bind ?_
  simp only [newExc, newTuple]
  refine wpAny_bind (wpAny_newObj_type ?_ (by size_fits))
  refine wpAny_bind (m := firstArgMember _ _) (wpAny_of_eq (a := Value.none) (by first | rfl | (simp only [firstArgMember]; rfl)) ?_)
  refine wpAny_newObj_type ?_ (by size_fits)
  simp only [raiseNew]
  refine wpAny_bind (wpAny_handled ?_)
  rw [show A.in1.handled = none by simpa using hh]
  refine wpAny_bind (wpAny_pure (wpAny_throw ?_))
  refine wpAny_bind (wpAny_isInstance (T := "StopIteration") (b := true) ⟨_, Heap.get?_push_size _ rfl, rfl⟩ isSubtype_stop ?_)
  exact wpAny_pure (hQ _ ((((Heap.SameBut.update ..).trans (Heap.SameBut.update ..)).extBut.push _).push _))
end
end Mine
end

section
open PySem PySem.W PyProof.Rows PySem.Calls PySem.Spec
set_option maxRecDepth 100000
namespace Mine

theorem entry_si_iter : entryFor table "set_iterator.__iter__" = some Builtin.«dict_keyiterator.__iter__» :=
  entryFor_alias (id' := "dict_keyiterator.__iter__") (by kernel_rfl) rfl (by decide +kernel) (by kernel_rfl)
theorem args_si_iter (a : Value) : argsOk "set_iterator.__iter__" ⟨[a], []⟩ := by unfold argsOk; kernel_rfl

section
variable {prog : Program} {w : World} {A : Around} {E : Value → Shared → Prop} {s : Shared}

theorem self_iter {I : Addr} {first : Value} {i : Nat} {a : Addr} {n ep : Nat} {Q : Value → Shared → Prop} (hit : IsSI s.heap I first i a n ep) (hQ : Q (.ref I) s) : wpAny (model prog w) A (pyIter (.ref I)) Q E s := by
  refine wpAny_pyIter_slot hit.typeIs slot_si_iter (wpAny_call_entry slot_si_iter hit.typeIs entry_si_iter ?_ (args_si_iter _))
  exact wpAny_pure ⟨_, rfl, "set_iterator", _, hit.typeIs, slot_si_next.lookup, hQ⟩

theorem walks_int {I a : Addr} (hIa : a ≠ I) {es : Array (Int × Value)} {ep : Nat} {t : SetTable} (hf : t.fits es.size = true) (cs : Nat → Nat) (out : List Value) (hl : out.length = es.size)
    (hnx : ∀ (i : Nat), i ≤ es.size → ∀ (A : Around) (E : Value → Shared → Prop) (Q : Option (Value × Nat) → Shared → Prop) (s : Shared), s.heap.get? a = some (setObj es ep t) → Q (out[i]?.map fun x => (x, cs (i + 1))) s → wpAny (model prog w) A (setNext a (cs i) i ep) Q E s)
    (hh : A.handled = none) : WalksS prog w A I [I, a] [I] (fun x y => y = x) es.size (fun j v => out[j]? = some v) (fun i s => s.heap.get? a = some (setObj es ep t) ∧ IsSI s.heap I (.int (cs i) 0) i a es.size ep) where
  sub := fun b hb => by rw [List.mem_singleton.mp hb]; simp
  grefl := fun _ => rfl
  gtrans := fun _ _ _ x y => y.trans x
  frame := fun i s h' tk st _ hk => ⟨hk a (by simp) _ st.1, st.2.keep fun o e => hk I (by simp) o e⟩
  item := fun i s Q E hi st hQ => by
    have ho : out[i]? = some out[i] := List.getElem?_eq_getElem (by omega)
    refine next_int st.2 st.1 hf rfl (x := out[i]) (c' := cs (i + 1)) (fun A E Q' hq => hnx i (by omega) A E Q' s st.1 (by rw [ho]; exact hq)) fun h' hit hs => ?_
    exact hQ _ _ ho ⟨hs.extBut a _ hIa st.1, hit⟩ ⟨fun b o hb e => hs.extBut b o (fun q => hb (by simp [q])) e, rfl, rfl, rfl, Nat.le_refl _⟩
  done := fun s Q E st hQ => by
    have ho : out[es.size]? = none := List.getElem?_eq_none (by omega)
    refine next_int_end hh st.2 st.1 hf rfl (fun A E Q' hq => hnx _ (Nat.le_refl _) A E Q' s st.1 (by rw [ho]; exact hq)) fun h' he => ?_
    exact hQ _ ⟨fun b o hb e => he b o (fun q => hb (by simp [q])) e, rfl, rfl, rfl, Nat.le_refl _⟩
  self := fun i s Q E st hQ => self_iter st.2 hQ

theorem walks_ref {I a T : Addr} (hIa : a ≠ I) (hIT : T ≠ I) {es : Array (Int × Value)} {ep : Nat} {t : SetTable} (hf : t.fits es.size = true) {idx : List Nat} {oT : Obj} {c : Nat} (hTd : oT.data = .seq (idx.map fun i : Nat => rawInt i).toArray c)
    (hidx : ∀ p ∈ idx, p < es.size) (hlen : idx.length = es.size)
    (hh : A.handled = none) : WalksS prog w A I [I, a, T] [I] (fun x y => y = x) es.size (fun j v => (idx.map fun p => (es[p]?.map (·.2)).getD .none)[j]? = some v) (fun i s => s.heap.get? a = some (setObj es ep t) ∧ IsSI s.heap I (.ref T) i a es.size ep ∧ s.heap.get? T = some oT) where
  sub := fun b hb => by rw [List.mem_singleton.mp hb]; simp
  grefl := fun _ => rfl
  gtrans := fun _ _ _ x y => y.trans x
  frame := fun i s h' tk st _ hk => ⟨hk a (by simp) _ st.1, st.2.1.keep fun o e => hk I (by simp) o e, hk T (by simp) _ st.2.2⟩
  item := fun i s Q E hi st hQ => by
    have hlt : i < idx.length := by omega
    have hp : idx[i] < es.size := hidx _ (List.getElem_mem hlt)
    have hx : es[idx[i]]?.map (·.2) = some es[idx[i]].2 := by rw [getElem?_pos es _ hp]; rfl
    refine next_ref st.2.1 st.1 hf rfl st.2.2 hTd (p := idx[i]) (x := es[idx[i]].2) (by simp [hlt, rawInt]) hx fun h' hit hs => ?_
    refine hQ _ _ ?_ ⟨hs.extBut a _ hIa st.1, hit, hs.extBut T _ hIT st.2.2⟩ ⟨fun b o hb e => hs.extBut b o (fun q => hb (by simp [q])) e, rfl, rfl, rfl, Nat.le_refl _⟩
    rw [List.getElem?_map, List.getElem?_eq_getElem hlt]
    simp [hp]
  done := fun s Q E st hQ => by
    refine next_ref_end hh st.2.1 st.1 hf rfl st.2.2 hTd (by simp [hlen]) fun h' he => ?_
    exact hQ _ ⟨fun b o hb e => he b o (fun q => hb (by simp [q])) e, rfl, rfl, rfl, Nat.le_refl _⟩
  self := fun i s Q E st hQ => self_iter st.2.1 hQ

theorem map_getD_perm {es : Array (Int × Value)} {idx : List Nat} (hp : idx.Perm (List.range es.size)) : (idx.map fun p => (es[p]?.map (·.2)).getD .none).Perm (es.toList.map (·.2)) := by
  refine (hp.map _).trans ?_
  have e : (List.range es.size).map (fun p => (es[p]?.map (·.2)).getD Value.none) = es.toList.map (·.2) := by
    apply List.ext_getElem
    · simp
    · intro i h1 h2
      have hi : i < es.size := by simpa using h1
      simp [hi]
  rw [e]

theorem iter_set {a : Addr} {es : Array (Int × Value)} {ep : Nat} {t : SetTable} (hset : s.heap.get? a = some (setObj es ep t)) (hT : TabOk (!w.params.followText "set-order") t es.size) (hsz : es.size ≤ sizeLine) {Q : Value → Shared → Prop}
    (hQ : ∀ I h' d fp St (out : List Value), (∀ b o, s.heap.get? b = some o → h'.get? b = some o) → out.Perm (es.toList.map (·.2)) → (∀ A' : Around, A'.handled = none → WalksS prog w A' I fp [I] (fun x y => y = x) es.size (fun j v => out[j]? = some v) St) →
      St 0 { s with heap := h', drawn := d } → (∀ b ∈ fp, b = a ∨ s.heap.objs.size ≤ b) → s.heap.objs.size ≤ I → Q (.ref I) { s with heap := h', drawn := d }) :
    wpAny (model prog w) A (pyIter (.ref a)) Q E s := by
  have hTy : s.TypeIs (.ref a) "set" := ⟨_, hset, rfl⟩
  have halt := Heap.lt_size hset
  refine wpAny_pyIter_slot hTy F.slot_set_iter (wpAny_call_entry F.slot_set_iter hTy entry_set_iter ?_ (F.args_set_iter_1 _))
  unfold Builtin.«frozenset.__iter__»
  refine wpAny_bind (wpAny_bind (wpAny_pure (wpAny_pure ?_)))
  refine wpAny_bind (wpAny_bind (wpAny_setEntries_of hset rfl hT.fits (wpAny_pure ?_)))
  refine wpAny_bind ?_
  refine wpAny_bind ?_
  refine wpAny_setState_of hset rfl hT.fits ?_
  dsimp only
  refine wpAny_bind (wpAny_byText (wpAny_pure ?_))
  split
  · refine wpAny_bind (wpAny_drawOrder es.size _ (by simp) fun ys d hp => ?_)
    have hyl : ys.length = es.size := by rw [hp.length_eq, List.length_range]
    refine wpAny_bind (wpAny_newTuple ?_ (by rw [List.length_map, hyl]; exact hsz))
    have hset1 : (s.heap.push { cls := .type "tuple", data := .seq (ys.map fun i : Nat => rawInt i).toArray }).get? a = some (setObj es ep t) := Heap.get?_push_of_some _ hset
    refine wpAny_bind (wpAny_setEpoch_of (s := { s with heap := s.heap.push { cls := .type "tuple", data := .seq (ys.map fun i : Nat => rawInt i).toArray }, drawn := d }) hset1 rfl hT.fits ?_)
    refine wpAny_bind (wpAny_newObj_type (wpAny_pure ⟨_, rfl, "set_iterator", _, ⟨_, Heap.get?_push_size _ rfl, rfl⟩, slot_si_next.lookup, ?_⟩))
    have hT1 : (s.heap.push { cls := .type "tuple", data := .seq (ys.map fun i : Nat => rawInt i).toArray }).get? s.heap.objs.size = some { cls := .type "tuple", data := .seq (ys.map fun i : Nat => rawInt i).toArray } := Heap.get?_push_size _ rfl
    generalize hH : s.heap.push { cls := .type "tuple", data := .seq (ys.map fun i : Nat => rawInt i).toArray } = H at hset1 hT1 ⊢
    have hHs : H.objs.size = s.heap.objs.size + 1 := by rw [← hH, Heap.size_push]
    refine hQ H.objs.size _ d [H.objs.size, a, s.heap.objs.size] _ (ys.map fun p => (es[p]?.map (·.2)).getD .none) (fun b o e => Heap.get?_push_of_some _ (hH ▸ Heap.get?_push_of_some _ e)) (map_getD_perm hp)
      (fun A' hh => walks_ref (oT := { cls := .type "tuple", data := .seq (ys.map fun i : Nat => rawInt i).toArray }) (c := 0) (Nat.ne_of_lt (by rw [hHs]; exact Nat.lt_succ_of_lt halt)) (Nat.ne_of_lt (by rw [hHs]; exact Nat.lt_succ_self _)) hT.fits rfl
        (fun p hp' => by simpa using hp.mem_iff.mp hp') hyl hh)
      ⟨Heap.get?_push_of_some _ hset1, ⟨_, Heap.get?_push_size _ rfl, rfl, rfl⟩, Heap.get?_push_of_some _ hT1⟩ (fun b hb => ?_) (by rw [hHs]; exact Nat.le_succ _)
    simp only [List.mem_cons, List.not_mem_nil, or_false] at hb
    rcases hb with rfl | rfl | rfl
    · exact .inr (by rw [hHs]; exact Nat.le_succ _)
    · exact .inl rfl
    · exact .inr (Nat.le_refl _)
  · rename_i hnd
    refine wpAny_bind (wpAny_pure ?_)
    refine wpAny_bind (wpAny_setEpoch_of hset rfl hT.fits ?_)
    refine wpAny_bind (wpAny_newObj_type (wpAny_pure ⟨_, rfl, "set_iterator", _, ⟨_, Heap.get?_push_size _ rfl, rfl⟩, slot_si_next.lookup, ?_⟩))
    have hne : a ≠ s.heap.objs.size := Nat.ne_of_lt halt
    have hit : IsSI (s.heap.push { cls := .type "set_iterator", data := .fields #[rawInt 0, rawInt 0, .ref a, rawInt es.size, rawInt ep] }) s.heap.objs.size (.int 0 0) 0 a es.size ep := ⟨_, Heap.get?_push_size _ rfl, rfl, rfl⟩
    have hset' : (s.heap.push { cls := .type "set_iterator", data := .fields #[rawInt 0, rawInt 0, .ref a, rawInt es.size, rawInt ep] }).get? a = some (setObj es ep t) := Heap.get?_push_of_some _ hset
    cases hbt : w.params.followText "set-order" with
    | true =>
      refine hQ s.heap.objs.size _ s.drawn [s.heap.objs.size, a] _ ((pickOrder (w.params.setOrder a ep) es).toList.map (·.2)) (fun b o e => Heap.get?_push_of_some _ e) ((pick_perm _ _).map _)
        (fun A' hh => walks_int hne hT.fits (fun _ => 0) _ (by rw [List.length_map, (pick_perm _ _).length_eq, Array.length_toList]) (fun i hi A E Q s hs hq => ?_) hh) ⟨hset', hit⟩ (fun b hb => ?_) (Nat.le_refl _)
      · refine text_next hs hT.fits hbt ?_
        rw [List.getElem?_map, Array.getElem?_toList, Option.map_map] at hq
        exact hq
      · simp only [List.mem_cons, List.not_mem_nil, or_false] at hb
        rcases hb with rfl | rfl
        · exact .inr (Nat.le_refl _)
        · exact .inl rfl
    | false =>
      have hdr : (!t.plain && decide (es.size > 1)) = false := by
        rw [hbt] at hnd
        have h2 : ¬ (!t.plain && decide (es.size > 1)) = true := hnd
        exact Bool.not_eq_true _ ▸ h2
      refine hQ s.heap.objs.size _ s.drawn [s.heap.objs.size, a] _ (es.toList.map (·.2)) (fun b o e => Heap.get?_push_of_some _ e) (List.Perm.refl _)
        (fun A' hh => walks_int hne hT.fits (fun i => if i = 0 then 0 else t.place.getD (i - 1) 0 + 1) _ (by simp) (fun i hi A E Q s hs hq => ?_) hh) ⟨hset', hit⟩ (fun b hb => ?_) (Nat.le_refl _)
      · refine slots_next hs hT hbt hdr hi rfl ?_
        rw [List.getElem?_map, Array.getElem?_toList, Option.map_map] at hq
        rw [if_neg (by omega)] at hq
        exact hq
      · simp only [List.mem_cons, List.not_mem_nil, or_false] at hb
        rcases hb with rfl | rfl
        · exact .inr (Nat.le_refl _)
        · exact .inl rfl
end
end Mine
end

section
open PySem PySem.W PyProof.Rows PySem.Calls PySem.Spec
set_option maxRecDepth 100000
namespace Mine

theorem split_set_len : splitId "set.__len__" = some ("set", "__len__") := by kernel_rfl

theorem itemsOf_list {out : List Value} {acc : Array Value} (h : ItemsOf (fun j v => out[j]? = some v) acc out.length) : acc.toList = out := by
  apply List.ext_getElem?
  intro j
  rw [Array.getElem?_toList]
  rcases Nat.lt_or_ge j acc.size with hlt | hge
  · rw [getElem?_pos acc j hlt]
    exact (h.2 j acc[j] (getElem?_pos acc j hlt)).symm
  · rw [Array.getElem?_eq_none hge, List.getElem?_eq_none (by rw [← h.1]; exact hge)]

section
variable {prog : Program} {w : World} {A : Around} {E : Value → Shared → Prop} {s : Shared}

theorem collect_set {a : Addr} {es : Array (Int × Value)} {ep : Nat} {t : SetTable} (hh : A.handled = none) (hset : s.heap.get? a = some (setObj es ep t)) (hT : TabOk (!w.params.followText "set-order") t es.size) (hsz : es.size < sizeLine) {Q : List Value → Shared → Prop}
    (hQ : ∀ vs h' d tk, (∀ b o, s.heap.get? b = some o → h'.get? b = some o) → vs.Perm (es.toList.map (·.2)) → Q vs { s with heap := h', drawn := d, toks := tk }) :
    wpAny (model prog w) A (collect (.ref a)) Q E s := by
  have halt := Heap.lt_size hset
  have hS0 : (s.heap.push { cls := .type "list", data := .seq ([] : List Value).toArray }).get? s.heap.objs.size = some { cls := .type "list", data := .seq ([] : List Value).toArray } := Heap.get?_push_size _ rfl
  have hset1 : (s.heap.push { cls := .type "list", data := .seq ([] : List Value).toArray }).get? a = some (setObj es ep t) := Heap.get?_push_of_some _ hset
  have hTy : ∀ (s' : Shared), s'.heap.get? a = some (setObj es ep t) → s'.TypeIs (.ref a) "set" := fun s' h => ⟨_, h, rfl⟩
  unfold collect
  refine wpAny_bind (wpAny_runValue (codeAny_builtin F.entry_proto_collect ?_))
  rw [Around.under_plainId F.plain_proto_collect _]
  show wpAny _ A.in1 (newList [] >>= fun l => again (.builtin "list.__iadd__" ⟨[l, .ref a], []⟩)) _ _ s
  refine wpAny_bind (wpAny_newObj_type ?_)
  refine wpAny_pure ⟨plainId_quiet F.plain_list_iadd _, codeAny_builtin F.entry_list_iadd ?_⟩
  rw [Around.under_plainId F.plain_list_iadd _]
  generalize hH : s.heap.push { cls := .type "list", data := .seq ([] : List Value).toArray } = H at hS0 hset1 ⊢
  have hHs : H.objs.size = s.heap.objs.size + 1 := by rw [← hH, Heap.size_push]
  have hold : ∀ b o, s.heap.get? b = some o → H.get? b = some o := fun b o e => hH ▸ Heap.get?_push_of_some _ e
  show wpAny _ A.in1 (Builtin.List.listExtendWith (.ref s.heap.objs.size) (.ref a) (.ref s.heap.objs.size)) _ _ _
  unfold Builtin.List.listExtendWith
  refine wpAny_bind (wpAny_typeOf (hTy _ hset1) ?_)
  have h1 : Builtin.List.listSameRef (.ref s.heap.objs.size) (.ref a) = false := by
    simp only [Builtin.List.listSameRef, beq_eq_false_iff_ne]; exact Nat.ne_of_gt halt
  have h2 : (Value.type "set" == Value.type "list") = false := by decide
  have h3 : (Value.type "set" == Value.type "tuple") = false := by decide
  simp only [h1, h2, h3, Bool.or_false, Bool.false_eq_true, if_false]
  refine wpAny_bind (iter_set (s := { s with heap := H }) hset1 hT (Nat.le_of_lt hsz) fun I h' d fp St out hk hp hW hSt hfp hI => ?_)
  have hset2 : h'.get? a = some (setObj es ep t) := hk _ _ hset1
  have hS1 : h'.get? s.heap.objs.size = some { cls := .type "list", data := .seq ([] : List Value).toArray } := hk _ _ hS0
  have hSf : s.heap.objs.size ∉ fp := fun hm => by
    rcases hfp _ hm with e | e
    · rw [e] at halt; exact Nat.lt_irrefl _ halt
    · have e' : H.objs.size ≤ s.heap.objs.size := e
      rw [hHs] at e'; exact absurd e' (Nat.not_succ_le_self _)
  refine wpAny_bind (wpAny_holding ?_)
  unfold Builtin.List.listLengthHint
  refine wpAny_bind (wpAny_specialOf (hTy _ hset2) F.slot_set_len.lookup ?_)
  wp_delta
  refine wpAny_bind (wpAny_isInstance (b := true) (hTy _ hset2) sub_set_self ?_)
  show wpAny _ A.in1 (typeOf (Value.ref a) >>= _) _ _ _
  refine wpAny_bind (wpAny_typeOf (hTy _ hset2) ?_)
  refine wpAny_pure ?_
  show wpAny _ A.in1 (rule "list.extend.makes-room" >>= fun _ => Builtin.List.listTouch (.ref s.heap.objs.size) >>= fun _ =>
    again (.builtin "list.extend.loop" ⟨[.ref s.heap.objs.size, .ref I, .ref s.heap.objs.size], []⟩)) _ _ _
  refine wpAny_bind (wpAny_rule ?_)
  refine wpAny_bind ?_
  show wpAny _ A.in1 (updateSeq s.heap.objs.size (·.push .none) >>= fun _ => updateSeq s.heap.objs.size (·.pop)) _ _ _
  refine wpAny_bind (wpAny_updateSeq hS1 rfl ?_)
  have hS₂ := Heap.get?_update_self (Obj.mapSeq (·.push Value.none)) hS1 rfl
  refine wpAny_updateSeq hS₂ rfl ?_
  have hS₃ := Heap.get?_update_self (Obj.mapSeq (·.pop)) hS₂ rfl
  have oth : ∀ b o, b ≠ s.heap.objs.size → h'.get? b = some o →
      ((h'.update s.heap.objs.size (Obj.mapSeq (·.push Value.none))).update s.heap.objs.size (Obj.mapSeq (·.pop))).get? b = some o :=
    fun b o hb e => (Heap.get?_update_other _ _ (Ne.symm hb)).trans ((Heap.get?_update_other _ _ (Ne.symm hb)).trans e)
  have hlo : out.length = es.size := by rw [hp.length_eq, List.length_map, Array.length_toList]
  have W := hW A.in1 (by simpa using hh)
  refine wpAny_pure ⟨plainId_quiet F.plain_extend_loop _, codeAny_extend_loopS W (Nat.le_of_lt hsz) _ hSf _ es.size 0 _ _ _ rfl (Nat.zero_le _)
    (W.frame 0 ({ s with heap := h', drawn := d } : Shared) _ s.toks hSt (Nat.le_refl _) fun b hb o e => oth b o (fun h => hSf (h ▸ hb)) e) hS₃ (ItemsOf.nil _) fun s' acc' c' hm hS' hacc => ?_⟩
  show wpAny _ A (load s.heap.objs.size >>= _) _ _ s'
  refine wpAny_bind (wpAny_load hS' ?_)
  refine wpAny_pure ?_
  rw [← hlo] at hacc
  rw [itemsOf_list hacc]
  obtain ⟨g1, g2, g3, g4, g5⟩ := s'
  have e2 : g2 = s.gens := hm.gens
  have e3 : g3 = d := hm.drawn
  have e5 : g5 = s.os := hm.os
  subst e2 e3 e5
  refine hQ out g1 g3 g4 (fun b o e => ?_) hp
  have hb : b < s.heap.objs.size := Heap.lt_size e
  refine hm.heap b o (fun q => ?_) (oth b o (Nat.ne_of_lt hb) (hk b o (hold b o e)))
  simp only [List.mem_cons, List.not_mem_nil, or_false] at q
  rcases q with q | q
  · exact Nat.ne_of_lt hb q
  · have hI' : H.objs.size ≤ I := hI
    rw [← q, hHs] at hI'
    exact absurd (Nat.lt_of_lt_of_le hb (Nat.le_of_succ_le hI')) (Nat.lt_irrefl _)

/-- sorted() of a set of ints -/
theorem sorted_set {a : Addr} {ks : List Int} {Q : Value → Shared → Prop} {h₀ : Heap} {L : Addr} {m : Str → Option Value} {news : List (Addr × Obj)}
    (F : Fr h₀ L s.heap m) (Nw : News h₀ L s.heap news) (hh : A.handled = none) (hS : IntSet prog w s.heap a ks) (hmax : ks.length ≤ 100000)
    (h : ∀ D h' d tk vs' ns' c, Fr h₀ L h' m → News h₀ L h' ((D, listOf vs'.toArray c) :: news) → (∀ q ∈ news, q.1 < D) → (∀ b o, s.heap.get? b = some o → h'.get? b = some o) → IntsAre vs' ns' → ns'.Perm ks → ns'.Pairwise (· ≤ ·) → Q (.ref D) { s with heap := h', drawn := d, toks := tk }) :
    wpAny (model prog w) A (call (.builtin "sorted") [.ref a]) Q E s := by
  obtain ⟨es, ep, t, ho, hel, hT, hi, rfl, hnd⟩ := hS
  have hsz : es.size ≤ 100000 := by simpa using hmax
  refine sorted_of (fun _ => True) F Nw hmax (fun A' hA' => ?_) fun D h' d tk vs' ns' c _ => h D h' d tk vs' ns' c
  refine collect_set (by rw [hA', hh]) ho hT (by rw [sizeLine_eq]; omega) fun vs h' d tk hk hp => ⟨h', d, tk, vs.map numOf, rfl, trivial, hk, intsAre_map vs fun v hv => ?_, ?_⟩
  · obtain ⟨e, he, rfl⟩ := List.mem_map.mp (hp.mem_iff.mp hv)
    exact hi e he
  · have := hp.map numOf
    rw [List.map_map] at this
    exact this
end
end Mine
end

section
open PySem PySem.W PyProof.Rows PySem.Calls PySem.Spec
set_option maxRecDepth 100000
namespace Mine
open TI

/-- enter a def that raises nothing: the whole heap is its ground -/
theorem enter0 {prog : Program} {w : World} {A : Around} {s : Shared} {hb : Heap} {L : Addr} {m : Str → Option Value} {K : Frag} {p : Program} {loose : List Str} {mean : ExcName → Option Value} {mg mb : Str → Option Value}
    {R : Result → Shared → Prop} {name qual : Str} {params : Arguments} {body : List Stmt} {scope : Scope} {dV kV doc pm cdv ct oc : Value} {an od : Option Addr} {osl : Array (Option Value)} {f : Addr} {args : Args} {binds : List (Str × Value)}
    (F : Fr hb L s.heap m) (X₀ : K.In hb) (T : Top p loose mean mg mb hb)
    (ho : K.lookup f = some ⟨oc, od, .func (fnOf name qual params body scope dV kV doc pm an cdv ct), osl⟩) (hcd : codeIn K cdv qual = true) (hroom : A.depth < recursionLimit)
    (hbind : BindsTo s (fnOf name qual params body scope dV kV doc pm an cdv ct) args binds) (hloc : ∀ y ∈ binds, scope.names.lookup y.1 = some .local)
    (h : ∀ L' h₁, Fr s.heap L' h₁ (fun y => binds.reverse.lookup y) → K.In s.heap → Top p loose mean mg mb s.heap → News s.heap L' h₁ [] →
      wpAny (model prog w) (A.deeper (envOf qual scope L' f cdv)) (execs body (envOf qual scope L' f cdv))
        (fun fl s' => R (.ok (.ret (match fl with | .ret v => v | _ => .none))) s')
        (fun e s' => wpAny (model prog w) (A.deeper (envOf qual scope L' f cdv)) (leaving (envOf qual scope L' f cdv) e) (fun _ s'' => R (.error e) s'') (fun e' s'' => R (.error e') s'') s')
        { s with heap := h₁, toks := s.toks + binds.length })
    (hco : scope.isCoroutine = false) (hgen : scope.isGenerator = false) (hk : scope.kind = .function)
    (hcell : ∀ x ∈ scope.names, x.2 ≠ .cell) : codeAny (model prog w) A (.call (.ref f) args) R s := by
  have X := X₀.keeps F.keep
  refine codeAny_call_def (fd := fnOf name qual params body scope dV kV doc pm an cdv ct) (body := body) (binds := binds) hroom (X _ _ ho) rfl (T.nolimit.keeps F.keep) (codeRec_of X hcd) rfl hbind hcell hloc (fun h₁ hns hk₁ => ?_) hco hgen hk
  exact h s.heap.objs.size h₁ ⟨hns, fun b o e => hk₁ b o e, Nat.le_refl _⟩ X (T.keeps F.keep) News.nil

local macro_rules | `(tactic| walk_at "km enter0") => `(tactic| (refine' enter0 ?k1 ?k2 ?k5 ?k6 ?k7 ?k8 ?k9 ?kB ?_ ?c2 ?c3 ?c4 ?c5; (case k1 => assumption); (case k2 => assumption); (case k5 => assumption); (case k6 => k_dflt k_is); (case k7 => k_dflt k_is); (case k8 => ktr_room); (case k9 => exact BindsTo.of_eq rfl); (case kB => exact locs rfl); (case c2 => exact rfl); (case c3 => exact rfl); (case c4 => exact rfl); (case c5 => decide)))

local macro_rules | `(tactic| walk_at "km steps5") => `(tactic| repeat' ((fail_if_success (with_reducible show wpAny _ _ (call (Value.builtin "list.append") _) _ _ _)); (fail_if_success (with_reducible show wpAny _ _ (exec (Stmt.For _ _ _ _ _) _) _ _ _)); (fail_if_success (with_reducible show wpAny _ _ (exec (Stmt.While _ _ _ _) _) _ _ _)); first | (k_unfold; (try dsimp only)) | (k_end; wrow_close) | walk1 | (dsimp only; walk1) | (leave1; walk_say "STEP leave1"; try dsimp only)))
local macro_rules | `(tactic| walk_at "km steps") => `(tactic| repeat' ((fail_if_success (with_reducible show wpAny _ _ (exec (Stmt.For _ _ _ _ _) _) _ _ _)); (fail_if_success (with_reducible show wpAny _ _ (exec (Stmt.While _ _ _ _) _) _ _ _)); first | (k_unfold; (try dsimp only)) | (k_end; wrow_close) | walk1 | (dsimp only; walk1) | (leave1; walk_say "STEP leave1"; try dsimp only)))

/-- the nodes on the way from the whole down to a place -/
def wayOf (p : Int) : Nat → Nat → Nat → List Int
  | 0, _, _ => []
  | n + 1, a, b => (100 * (a : Int) + b) :: (if b - a ≤ 1 then [] else if p < (((a + b) / 2 : Nat) : Int) then wayOf p n a ((a + b) / 2) else wayOf p n ((a + b) / 2) b)

theorem wayOf_len (p : Int) : ∀ (n j a b : Nat), b - a ≤ 2 ^ j → (wayOf p n a b).length ≤ j + 1
  | 0, j, a, b, h => by simp [wayOf]
  | n + 1, 0, a, b, h => by
    rw [wayOf, if_pos (by simpa using h)]; simp
  | n + 1, j + 1, a, b, h => by
    rw [wayOf]
    have h2 : 2 ^ (j + 1) = 2 ^ j + 2 ^ j := by rw [Nat.pow_succ]; omega
    split
    · simp
    · split
      · have := wayOf_len p n j a ((a + b) / 2) (by omega)
        simp only [List.length_cons]; omega
      · have := wayOf_len p n j ((a + b) / 2) b (by omega)
        simp only [List.length_cons]; omega

theorem ways_len {size : Nat} (h : size ≤ 90) : ∀ ns : List Int, (ns.flatMap fun p => wayOf p 100 0 size).length ≤ 8 * ns.length
  | [] => by simp
  | p :: ns => by
    have h1 := wayOf_len p 100 7 0 size (by omega)
    have h2 := ways_len h ns
    simp only [List.flatMap_cons, List.length_append, List.length_cons]
    omega

abbrev wbase (W P : Addr) (size : Nat) (t : Tok) (z : Str) : Option Value := if z = Str.ofString "ways" then some (Value.ref W) else List.lookup z [(Str.ofString "places", Value.ref P), (Str.ofString "size", Value.int (size : Int) t)]

theorem wmap {W P : Addr} {size : Nat} {t : Tok} (M : Str → Option Value) {x y v : Option Value} (h1 : M (Str.ofString "end") = x) (h2 : M (Str.ofString "start") = y) (h3 : M (Str.ofString "place") = v)
    (h5 : ∀ z, z ≠ Str.ofString "end" → z ≠ Str.ofString "start" → z ≠ Str.ofString "place" → z ≠ Str.ofString "middle" → M z = wbase W P size t z) :
    M = (fun z => if z = Str.ofString "end" then x else if z = Str.ofString "start" then y else if z = Str.ofString "place" then v else if z = Str.ofString "middle" then M z else wbase W P size t z) := by
  funext z
  by_cases e1 : z = Str.ofString "end"
  · rw [if_pos e1, e1]; exact h1
  rw [if_neg e1]
  by_cases e2 : z = Str.ofString "start"
  · rw [if_pos e2, e2]; exact h2
  rw [if_neg e2]
  by_cases e3 : z = Str.ofString "place"
  · rw [if_pos e3, e3]; exact h3
  rw [if_neg e3]
  by_cases e4 : z = Str.ofString "middle"
  · rw [if_pos e4]
  rw [if_neg e4]
  exact h5 z e1 e2 e3 e4

theorem wmap0 {W P : Addr} {size : Nat} {t : Tok} (M : Str → Option Value)
    (h5 : ∀ z, z ≠ Str.ofString "end" → z ≠ Str.ofString "start" → z ≠ Str.ofString "place" → z ≠ Str.ofString "middle" → M z = wbase W P size t z) :
    M = (fun z => if z = Str.ofString "place" then M z else if z = Str.ofString "start" then M z else if z = Str.ofString "end" then M z else if z = Str.ofString "middle" then M z else wbase W P size t z) := by
  funext z
  by_cases e1 : z = Str.ofString "place"
  · rw [if_pos e1]
  rw [if_neg e1]
  by_cases e2 : z = Str.ofString "start"
  · rw [if_pos e2]
  rw [if_neg e2]
  by_cases e3 : z = Str.ofString "end"
  · rw [if_pos e3]
  rw [if_neg e3]
  by_cases e4 : z = Str.ofString "middle"
  · rw [if_pos e4]
  rw [if_neg e4]
  exact h5 z e3 e2 e1 e4

set_option maxHeartbeats 8000000 in
theorem ways {w : World} {mean : ExcName → Option Value} {mg mb : Str → Option Value} (dp un : Nat) (gd : Option (List Code)) (env : Env) (l : List Env) (hb : Heap) (L : Addr) (m : Str → Option Value) (s : Shared) (size : Nat) (t : Tok) (P : Addr) (vs : List Value) (ns : List Int)
    (Q E : Value → Shared → Prop)
  (X : (hd.heap_39 w.params).In hb) (F : Fr hb L s.heap m) (T : Top hd.view_39 (looseW hd.view_39 [Str.ofString "bytes_types"]) mean mg mb hb)
  (hP : s.heap.IsList P vs.toArray) (hI : IntsAre vs ns) (hlen : ns.length ≤ 100) (hsize : size ≤ 90) (hroom : dp + 10 < recursionLimit)
  (ret : ∀ D h' d tk vs' ns' c, (∀ b o, s.heap.get? b = some o → h'.get? b = some o) → h'.get? D = some (listOf vs'.toArray c) → s.heap.get? D = none → IntsAre vs' ns' → ns'.Pairwise (· ≤ ·) → ns'.Nodup →
    (∀ k, k ∈ ns' ↔ k ∈ ns.flatMap fun p => wayOf p 100 0 size) → Q (.ref D) { s with heap := h', drawn := d, toks := tk }) :
  wpAny (model Challenge.rw_km0001_01.row.prog w) (topA dp un gd env l) (call (.ref 50) [.int size t, .ref P]) Q E s := by
  revert X
  k_fill
  intro X
  refine wpAny_call ?_
  walk_at "km enter0"
  intro L1 h1 F1 X1 T1 N1
  clear X T F
  k_fold
  walk_at "km steps"
  rename Fr _ _ _ _ => F2
  rename News _ _ _ _ => N2
  rename_i W h2 tk2 h2'
  refine For_invVF F2 rfl rfl ?_
  walk1
  refine iter_invN (fun i m nx => ∃ (u : Str → Option Value) (items : List Value) (cap : Nat), m = (fun z => if z = Str.ofString "place" then u z else if z = Str.ofString "start" then u z else if z = Str.ofString "end" then u z else if z = Str.ofString "middle" then u z else
      if z = Str.ofString "ways" then some (Value.ref W) else List.lookup z [(Str.ofString "places", Value.ref P), (Str.ofString "size", Value.int (size : Int) t)]) ∧ nx = [(W, listOf items.toArray cap)] ∧ IntsAre items ((ns.take i).flatMap fun p => wayOf p 100 0 size)) rfl hP hI F2 N2 ?_ ?_ ?_
  · refine ⟨fun _ => none, [], 0, ?_, rfl, .nil⟩
    funext z
    show (if z = Str.ofString "ways" then some (Value.ref W) else List.lookup z [(Str.ofString "places", Value.ref P), (Str.ofString "size", Value.int (size : Int) t)]) = _
    dsimp only
    by_cases e1 : z = Str.ofString "place"
    · rw [if_pos e1, e1]; rfl
    rw [if_neg e1]
    by_cases e2 : z = Str.ofString "start"
    · rw [if_pos e2, e2]; rfl
    rw [if_neg e2]
    by_cases e3 : z = Str.ofString "end"
    · rw [if_pos e3, e3]; rfl
    rw [if_neg e3]
    by_cases e4 : z = Str.ofString "middle"
    · rw [if_pos e4, e4]; rfl
    rw [if_neg e4]
  · rintro i n tn m₁ nx h3 tk3 own hn hmap hoff ⟨u, items, cap, rfl, rfl, hIt⟩ F3 N3
    walk_at "km steps"
    rename Fr _ _ _ _ => F4
    rename News _ _ _ _ => N4
    refine While_inv (n₀ := size) (fun k m nx => ∃ (u : Str → Option Value) (a b : Nat) (ta tb : Tok) (items : List Value) (zs : List Int) (cap fuel : Nat), m = (fun z => if z = Str.ofString "end" then some (.int b tb) else if z = Str.ofString "start" then some (.int a ta) else if z = Str.ofString "place" then some (.int n tn) else if z = Str.ofString "middle" then u z else
      if z = Str.ofString "ways" then some (Value.ref W) else List.lookup z [(Str.ofString "places", Value.ref P), (Str.ofString "size", Value.int (size : Int) t)]) ∧ nx = [(W, listOf items.toArray cap)] ++ own ∧ IntsAre items zs ∧
      zs ++ wayOf n fuel a b = ((ns.take i).flatMap fun p => wayOf p 100 0 size) ++ wayOf n 100 0 size ∧ a ≤ b ∧ b ≤ size ∧ b - a < fuel ∧ k = b - a) F4 N4 ?_ ?_
    · refine ⟨u, 0, size, tk3, t, items, _, cap, 100, ?_, rfl, hIt, rfl, by omega, by omega, by omega, rfl⟩
      funext z
      dsimp only
      by_cases e1 : z = Str.ofString "end"
      · simp only [if_pos e1]
      simp only [if_neg e1]
      by_cases e2 : z = Str.ofString "start"
      · simp only [if_pos e2]; rfl
      simp only [if_neg e2]
      by_cases e3 : z = Str.ofString "place"
      · simp only [if_pos e3]
      simp only [if_neg e3]
    · rintro k m₁ nx h5 tk5 F5 N5 ⟨u, a, b, ta, tb, items, zs, cap, fuel, rfl, rfl, hIt, hz, hab, hbs, hfu, rfl⟩
      have hne : ∀ p ∈ own, p.1 ≠ W := hoff.ne (.head _)
      have hlz : items.toArray.size ≤ sizeLine := by
        have e1 := congrArg List.length hz
        have e2 := ways_len hsize (ns.take i)
        have e3 := wayOf_len n 100 7 0 size (by omega)
        have e4 := hIt.length
        rw [List.length_append, List.length_append] at e1
        rw [List.length_take] at e2
        rw [List.size_toArray, sizeLine_eq]
        omega
      walk_at "km steps5"
      all_goals
        refine append_K (hsz := hlz) F5 N5 (Upd.head hne) fun h6 F6 N6 => ?_
        clear F5 N5
        walk_at "km steps"
      all_goals
        rename Fr _ _ _ _ => F7
        rename News _ _ _ _ => N7
        have epush : ∀ x : Value, items.toArray.push x = (items ++ [x]).toArray := fun x => by simp
        rw [epush] at N7
        obtain ⟨f, rfl⟩ : ∃ f, fuel = f + 1 := ⟨fuel - 1, by omega⟩
      all_goals
        rw [wayOf] at hz
        have hmid : ((a : Int) + (b : Int)).fdiv 2 = (((a + b) / 2 : Nat) : Int) := by rw [Int.fdiv_eq_ediv_of_nonneg _ (by omega)]; omega
        try rw [hmid] at F7
      · have hc : 1 < (b : Int) - (a : Int) := by assumption
        have hlt : n < (((a + b) / 2 : Nat) : Int) := by rw [← hmid]; assumption
        rw [if_neg (by omega), if_pos hlt] at hz
        refine WhileStep.intro (n' := (a + b) / 2 - a) F7 N7 (by omega) ⟨_, a, (a + b) / 2, ta, _, _, zs ++ [100 * (a : Int) + b], cap + 1, f, wmap _ rfl rfl rfl (fun z n1 n2 n3 n4 => ?_), rfl, ints_snoc hIt _ _, ?_, by omega, by omega, by omega, rfl⟩
        · simp only [if_neg n1, if_neg n2, if_neg n3, if_neg n4]
        · rw [List.append_assoc]; exact hz
      · have hc : 1 < (b : Int) - (a : Int) := by assumption
        have hlt : ¬ n < (((a + b) / 2 : Nat) : Int) := by rw [← hmid]; assumption
        rw [if_neg (by omega), if_neg hlt] at hz
        refine WhileStep.intro (n' := b - (a + b) / 2) F7 N7 (by omega) ⟨_, (a + b) / 2, b, _, tb, _, zs ++ [100 * (a : Int) + b], cap + 1, f, wmap _ rfl rfl rfl (fun z n1 n2 n3 n4 => ?_), rfl, ints_snoc hIt _ _, ?_, by omega, by omega, by omega, rfl⟩
        · simp only [if_neg n1, if_neg n2, if_neg n3, if_neg n4]
        · rw [List.append_assoc]; exact hz
      · have hc : ¬ 1 < (b : Int) - (a : Int) := by assumption
        rw [if_pos (by omega)] at hz
        refine InvEndN.intro (nx := [(W, listOf (items ++ [Value.int (100 * (a : Int) + (b : Int)) (tk5 + 1 + 1 + 1 + 1)]).toArray (cap + 1))]) F7 N7 ⟨_, _, _, wmap0 _ (fun z n1 n2 n3 n4 => ?_), rfl, ?_⟩ rfl (fun p hp => ?_) (fun p hp => ?_)
        · simp only [if_neg n1, if_neg n2, if_neg n3, if_neg n4]
        · have hlt : i < ns.length := (List.getElem?_eq_some_iff.mp hn).1
          rw [List.take_succ_eq_append_getElem hlt, List.flatMap_append, (List.getElem?_eq_some_iff.mp hn).2]
          simp only [List.flatMap_cons, List.flatMap_nil, List.append_nil]
          rw [← hz]
          exact ints_snoc hIt _ _
        · rw [List.mem_singleton.mp hp]; exact .head _
        · exact .tail _ hp
  · rintro m₁ nx h3 tk3 ⟨u, items, cap, rfl, rfl, hIt⟩ F3 N3
    walk_at "km steps"
    rw [List.take_length] at hIt
    have hbound : (ns.flatMap fun p => wayOf p 100 0 size).length ≤ 800 := by
      have := ways_len hsize ns
      omega
    have hW0 : s.heap.get? W = none := (N3 _ (.head _)).2.2
    refine set_of_list (ns := ns.flatMap fun p => wayOf p 100 0 size) rfl ⟨_, (N3 _ (.head _)).1, rfl, _, rfl⟩ hIt (by unfold scanBound; omega) fun h4 tk4 ks hS hm hk => ?_
    have F4 := F3.kept hk
    have N4 := (fun p hp => ⟨hk _ _ (N3 p hp).1, (N3 p hp).2⟩ : News _ _ h4 _)
    walk_at "km steps"
    refine sorted_set F4 N4 rfl hS ?_ fun D h6 d tk6 vs6 ns6 c6 F6 N6 l6 hk6 hI6 hp6 hs6 => ?_
    · have hnd : ks.Nodup := by obtain ⟨_, _, _, _, _, _, _, _, q⟩ := hS; exact q
      have := nodup_len hnd fun j hj => (hm j).mp hj
      omega
    walk_at "km steps"
    have hnd : ks.Nodup := by obtain ⟨_, _, _, _, _, _, _, _, q⟩ := hS; exact q
    exact ret D h6 d tk6 vs6 ns6 c6 (fun b o e => F6.keep b o e) (N6 _ (.head _)).1 (N6 _ (.head _)).2.2 hI6 hs6 (hp6.nodup_iff.mpr hnd) fun k => (hp6.mem_iff).trans (hm k)
end Mine
end

section
open PySem PySem.W PyProof.Rows PySem.Calls PySem.Spec PyProof.Rows.LCg PyProof.Rows.LCt
set_option maxRecDepth 100000
namespace Mine

def Stay (s : Shared) (h₀ : Heap) (L : Addr) (m : Str → Option Value) (all : List (Addr × Obj)) (s' : Shared) : Prop :=
  ∃ h' tk', s' = { s with heap := h', toks := tk' } ∧ Fr h₀ L h' m ∧ News h₀ L h' all

section
variable {prog : Program} {w : World} {A : Around} {E : Value → Shared → Prop} {s : Shared} {h₀ : Heap} {L : Addr} {m : Str → Option Value} {env : Env}

/-- a comprehension with a test, turn by turn; the ledger of the outer frame stays -/
theorem rest_T {ct elt : Expr} {x : Str} {scope : Scope} {cl : List (Str × Addr)} {S : List (Addr × Obj) → Prop} {P : Nat → Value → Prop} {Fin : List Value → List (Addr × Obj) → Prop} {news : List (Addr × Obj)} {n : Nat}
    (R : Nat → List Value → Prop) (hS : S news) (hfin : ∀ ys, R n ys → Fin ys news)
    (turn : ∀ i ys, i < n → R i ys → ∀ v I oI C oC D m₂ h tk (E' : Value → Shared → Prop), P i v → NsObj oC m₂ → m₂ x = some v → Fr h₀ L h m → News h₀ L h ((I, oI) :: (C, oC) :: (D, lst ys) :: news) → Off3 I C D news → ((@Ne Nat I C) ∧ (@Ne Nat I D) ∧ (@Ne Nat C D)) →
      wpAny (model prog w) A (isTrue ct (compEnvC scope cl C env) (eval ct (compEnvC scope cl C env))) (fun ok s' => if ok = true then
        wpAny (model prog w) A (eval elt (compEnvC scope cl C env)) (fun y s'' => R (i + 1) (ys ++ [y]) ∧ Stay { s with heap := h, toks := tk } h₀ L m ((I, oI) :: (C, oC) :: (D, lst ys) :: news) s'') E' s'
        else R (i + 1) ys ∧ Stay { s with heap := h, toks := tk } h₀ L m ((I, oI) :: (C, oC) :: (D, lst ys) :: news) s') E' { s with heap := h, toks := tk }) :
    ∀ (k i : Nat) (ys : List Value), i + k = n → R i ys → CompRestT prog w A h₀ L m env ct elt x scope cl s S P Fin k i ys news
  | 0, i, ys, hk, hR => CompRestT.zero (hfin ys (by rw [← hk]; exact hR))
  | k + 1, i, ys, hk, hR => CompRestT.succ fun v I oI C oC D m₂ h tk E' hv hC hx F N off ne => by
    refine wpAny_mono (turn i ys (by omega) hR v I oI C oC D m₂ h tk E' hv hC hx F N off ne) (fun ok s' hq => ?_) fun _ _ e => e
    cases ok with
    | true =>
      simp only [if_true] at hq ⊢
      refine wpAny_mono hq (fun y s'' hq' => ?_) fun _ _ e => e
      obtain ⟨hR', h', tk', rfl, F', N'⟩ := hq'
      exact CompEnd.intro F' N' news (fun p hp => hp) off hS (rest_T R hS hfin turn k (i + 1) (ys ++ [y]) (by omega) hR')
    | false =>
      simp only [Bool.false_eq_true, if_false] at hq ⊢
      obtain ⟨hR', h', tk', rfl, F', N'⟩ := hq
      exact CompEnd.intro F' N' news (fun p hp => hp) off hS (rest_T R hS hfin turn k (i + 1) ys (by omega) hR')

theorem rest_U {elt : Expr} {x : Str} {scope : Scope} {cl : List (Str × Addr)} {S : List (Addr × Obj) → Prop} {P : Nat → Value → Prop} {Fin : List Value → List (Addr × Obj) → Prop} {news : List (Addr × Obj)} {n : Nat}
    (R : Nat → List Value → Prop) (hS : S news) (hfin : ∀ ys, R n ys → Fin ys news)
    (turn : ∀ i ys, i < n → R i ys → ∀ v I oI C oC D m₂ h tk (E' : Value → Shared → Prop), P i v → NsObj oC m₂ → m₂ x = some v → Fr h₀ L h m → News h₀ L h ((I, oI) :: (C, oC) :: (D, lst ys) :: news) → Off3 I C D news → ((@Ne Nat I C) ∧ (@Ne Nat I D) ∧ (@Ne Nat C D)) →
      wpAny (model prog w) A (eval elt (compEnvC scope cl C env)) (fun y s'' => R (i + 1) (ys ++ [y]) ∧ Stay { s with heap := h, toks := tk } h₀ L m ((I, oI) :: (C, oC) :: (D, lst ys) :: news) s'') E' { s with heap := h, toks := tk }) :
    ∀ (k i : Nat) (ys : List Value), i + k = n → R i ys → CompRest prog w A h₀ L m env elt x scope cl s S P Fin k i ys news
  | 0, i, ys, hk, hR => CompRest.zero (hfin ys (by rw [← hk]; exact hR))
  | k + 1, i, ys, hk, hR => CompRest.succ fun v I oI C oC D m₂ h tk E' hv hC hx F N off ne => by
    refine wpAny_mono (turn i ys (by omega) hR v I oI C oC D m₂ h tk E' hv hC hx F N off ne) (fun y s'' hq' => ?_) fun _ _ e => e
    obtain ⟨hR', h', tk', rfl, F', N'⟩ := hq'
    exact CompEnd.intro F' N' news (fun p hp => hp) off hS (rest_U R hS hfin turn k (i + 1) (ys ++ [y]) (by omega) hR')

theorem str_st {I : Addr} {ty : String} {y : Str} {t : Tok} : ∀ i (h h' : Heap) (o : Obj) (nw : List (Addr × Obj)), h.IsStrIter I ty y t i → h.get? I = some o → h'.get? I = some o → (∀ b o, h₀.get? b = some o → h'.get? b = some o) → News h₀ L h' nw → True → h'.IsStrIter I ty y t i :=
  fun i h h' o nw st e e' _ _ _ => by
    obtain ⟨o', q, r⟩ := st
    rw [e] at q; cases q
    exact ⟨o, e', r⟩

/-- a comprehension over a text -/
theorem ListComp_S {elt iter : Expr} {x : Str} {px : Pos} {scope : Scope} {cl : List (Str × Addr)} {pos : Pos} {Q : Value → Shared → Prop} (F₀ : Fr h₀ L s.heap m)
    (hclos : closureFor scope env = pure cl) (hcell : ∀ y ∈ scope.names, y.2 ≠ .cell) (hkind : scope.kind = .function)
    (hnames : ∀ y ∈ scope.names, y.2 = .local → scope.names.lookup y.1 = some .local) (hx : scope.names.lookup x = some .local)
    (h : wpAny (model prog w) A (eval iter env) (fun xv s₁ => ∃ (y : Str) (t : Tok) (news : List (Addr × Obj)), xv = .str y t ∧ A.handled = none ∧ Fr h₀ L s₁.heap m ∧ News h₀ L s₁.heap news ∧ y.cps.size ≤ sizeLine ∧
      ∀ g, CompRest prog w A h₀ L m env elt x scope cl { s₁ with heap := g } (fun _ => True) (SignAt y) (FinE h₀ L m { s₁ with heap := g } Q) y.cps.size 0 [] news) E s)
    (hs : ∀ x, foldedSetIterable iter env x = pure x := by intro _; rfl) :
    wpAny (model prog w) A (eval (.ListComp elt [⟨.Name x px, iter, [], 0⟩] scope pos) env) Q E s := by
  rw [eval_ListComp]
  refine wpAny_comprehension_free (use := none) rfl hs hclos hkind hnames (wpAny_mono h (fun xv s₁ h₁ => ?_) fun _ _ e => e)
  obtain ⟨y, t, news, rfl, hh, F, N, hsz, R⟩ := h₁
  refine wpAny_pyIter_strU ?_
  have hmem : ∀ b ∈ [s₁.heap.objs.size], b < (s₁.heap.push { cls := .type (strIterType y), data := .fields #[.str y t, .int 0 0] }).objs.size := fun b hb => by
    rw [Heap.size_push, List.mem_singleton.mp hb]; exact Nat.lt_succ_self _
  cases ha : y.cps.all (· < 128) with
  | true =>
    have ht : strIterType y = "str_ascii_iterator" := by simp [strIterType, ha]
    rw [ht] at hmem ⊢
    refine block_U (Walks.strAscii hh s₁.heap.objs.size y t) hsz (fun i h st => by obtain ⟨o, e, _⟩ := st; exact ⟨o, e⟩) str_st hcell hkind hx ⟨_, Heap.get?_push_size _ rfl, rfl, rfl⟩ hmem
      (F.keeps fun _ _ e => Heap.get?_push_of_some _ e) (N.grown fun _ _ e => Heap.get?_push_of_some _ e) (Nat.ne_of_lt F.ns.lt) (next_is_new F) (fun p hp => Nat.ne_of_lt (Heap.lt_size (N p hp).1)) trivial (R _) ?_
    intro D C h tk m' ys news' F' N' o1 hn hC₀ hD₀ hCL hDL hCD offC fin
    refine ⟨m', hn, fun h'' hs'' => fin D h'' tk (F'.change hs'' hCL hC₀) (fun p hp => ?_) o1⟩
    refine ⟨hs''.extBut _ _ ?_ (N' p hp).1, (N' p hp).2⟩
    rcases List.mem_cons.mp hp with rfl | hp
    · exact Ne.symm hCD
    · exact offC p hp
  | false =>
    have ht : strIterType y = "str_iterator" := by simp [strIterType, ha]
    rw [ht] at hmem ⊢
    refine block_U (Walks.strWide hh s₁.heap.objs.size y t) hsz (fun i h st => by obtain ⟨o, e, _⟩ := st; exact ⟨o, e⟩) str_st hcell hkind hx ⟨_, Heap.get?_push_size _ rfl, rfl, rfl⟩ hmem
      (F.keeps fun _ _ e => Heap.get?_push_of_some _ e) (N.grown fun _ _ e => Heap.get?_push_of_some _ e) (Nat.ne_of_lt F.ns.lt) (next_is_new F) (fun p hp => Nat.ne_of_lt (Heap.lt_size (N p hp).1)) trivial (R _) ?_
    intro D C h tk m' ys news' F' N' o1 hn hC₀ hD₀ hCL hDL hCD offC fin
    refine ⟨m', hn, fun h'' hs'' => fin D h'' tk (F'.change hs'' hCL hC₀) (fun p hp => ?_) o1⟩
    refine ⟨hs''.extBut _ _ ?_ (N' p hp).1, (N' p hp).2⟩
    rcases List.mem_cons.mp hp with rfl | hp
    · exact Ne.symm hCD
    · exact offC p hp
end
end Mine
end

section
open PySem PySem.W PyProof.Rows PySem.Calls PySem.Spec
set_option maxRecDepth 100000
namespace Mine
open TI
local macro_rules | `(tactic| walk_at "km enter0") => `(tactic| (refine' enter0 ?k1 ?k2 ?k5 ?k6 ?k7 ?k8 ?k9 ?kB ?_ ?c2 ?c3 ?c4 ?c5; (case k1 => assumption); (case k2 => assumption); (case k5 => assumption); (case k6 => k_dflt k_is); (case k7 => k_dflt k_is); (case k8 => ktr_room); (case k9 => exact BindsTo.of_eq rfl); (case kB => exact locs rfl); (case c2 => exact rfl); (case c3 => exact rfl); (case c4 => exact rfl); (case c5 => decide)))

set_option maxHeartbeats 8000000 in
theorem spelled0 {w : World} {mean : ExcName → Option Value} {mg mb : Str → Option Value} (dp un : Nat) (gd : Option (List Code)) (env : Env) (l : List Env) (hb : Heap) (L : Addr) (m : Str → Option Value) (s : Shared) (c : Nat) (t : Tok)
    (Q E : Value → Shared → Prop)
  (X : (hd.heap_39 w.params).In hb) (F : Fr hb L s.heap m) (T : Top hd.view_39 (looseW hd.view_39 [Str.ofString "bytes_types"]) mean mg mb hb)
  (hc : c < 100000) (hroom : dp + 10 < recursionLimit)
  (ret : ∀ u h' tk, (∀ b o, s.heap.get? b = some o → h'.get? b = some o) → Q (.str (spell c) u) { s with heap := h', toks := tk }) :
  wpAny (model Challenge.rw_km0001_01.row.prog w) (topA dp un gd env l) (call (.ref 36) [.str ⟨#[c]⟩ t]) Q E s := by
  revert X
  k_fill
  intro X
  refine wpAny_call ?_
  walk_at "km enter0"
  intro L1 h1 F1 X1 T1 N1
  clear X T F
  k_fold
  k_steps
  rename Fr _ _ _ _ => F2
  exact ret _ _ _ fun b o e => F2.keep b o e

theorem strs_snoc {vs : List Value} {ss : List Str} (h : StrsAre vs ss) (x : Str) (t : Tok) : StrsAre (vs ++ [.str x t]) (ss ++ [x]) := by
  induction h with
  | nil => exact .cons x t .nil
  | cons y u _ ih => exact .cons y u ih

/-- what stands for a sign in the spelled text -/
def piece (c : Nat) : Str := if c < 128 then ⟨#[c]⟩ else spell c
end Mine
end

section
open PySem PySem.W PyProof.Rows PySem.Calls PySem.Spec
set_option maxRecDepth 100000
namespace Mine
theorem slot_bj : Slot "bytes" "join" "bytes.join" :=
  .of (owner := "bytes") (n := "join") (by rw [typeLookup_type, builtinLookup_eq_fast]; kernel_rfl) (by decide +kernel) (by decide +kernel) (by decide +kernel)
    (by first | exact .inl (by decide +kernel) | exact .inr (by decide +kernel)) (by rw [isSubtype_type]; kernel_rfl)
theorem type_bj : typeOf (.builtin "bytes.join") = pure (.type "method_descriptor") := by show builtinType _ = _; rw [builtinType_eq_fast]; kernel_rfl
theorem entry_bj : entryFor table "bytes.join" = some Builtin.«bytes.join» := entryFor_of_tree (by kernel_rfl)
theorem args_bj (a b : Value) : argsOk "bytes.join" ⟨[a, b], []⟩ := by
  unfold argsOk; rw [signature?_of (id := "bytes.join") (n := ['n', 'i', 'o', 'j']) (o := ['s', 'e', 't', 'y', 'b']) (by kernel_rfl) FB.owner_bytes]; kernel_rfl

theorem take_eq {id : String} {b : Array UInt8} {t : Tok} : Builtin.Bytes.takeBufferQuiet? id (.bytes b t) 0 = pure (some (b, none)) := by
  unfold Builtin.Bytes.takeBufferQuiet? Builtin.Bytes.takeBuffer?
  rw [KBy.special_eq KBy.look_buffer, KBy.own_buffer]
  have e : ∀ f : Bool, f = false → Builtin.Bytes.buffer? id (.bytes b t) (full := f) = pure (some b) := fun f hf => by rw [hf]; exact KBy.buffer_eq
  have e2 := e (0 == Builtin.Bytes.fullReadOnly) (by decide)
  simp only [pure_bind]
  rw [e2]
  kernel_rfl
section
variable {prog : Program} {w : World} {A : Around} {E : Value → Shared → Prop} {s : Shared}
theorem method_bj {pl : Sem Bool} {b : Array UInt8} {t : Tok} {Q : Value × List Value → Shared → Prop} (h : Q (.builtin "bytes.join", [.bytes b t]) s) : wpAny (model prog w) A (getMethod (.bytes b t) "join" pl) Q E s :=
  getMethod_builtin (typeIs_bytes _ _ _) FB.plainAttrs_bytes slot_bj type_bj (fun _ e => nomatch e) h
theorem letGo_none : ∀ (l : List Value) (keep : List Value) {Q : Unit → Shared → Prop}, Q () s → wpAny (model prog w) A (Builtin.Bytes.joinLetGo (l.map fun v => (v, none)) keep) Q E s
  | [], keep, Q, h => by unfold Builtin.Bytes.joinLetGo; exact wpAny_pure h
  | v :: l, keep, Q, h => by
    unfold Builtin.Bytes.joinLetGo
    rw [List.map_cons]
    dsimp only
    exact wpAny_bind (wpAny_letGo (letGo_none l keep h))

theorem bytes_get : ∀ {vs : List Value} {bs : List (Array UInt8)}, BytesAre vs bs → ∀ {i : Nat} (hi : i < vs.length), ∃ b t, vs[i] = .bytes b t ∧ bs[i]? = some b
  | _, _, .cons b t r, 0, _ => ⟨b, t, rfl, rfl⟩
  | _, _, .cons b t r, i + 1, hi => by
    obtain ⟨c, u, e1, e2⟩ := bytes_get r (i := i) (by simpa using hi)
    exact ⟨c, u, by simpa using e1, by simpa using e2⟩

theorem noHeap {vs : List Value} {bs : List (Array UInt8)} (h : BytesAre vs bs) : ∀ v ∈ vs, v.onHeap = false := by
  induction h with
  | nil => simp
  | cons b t _ ih => intro v hv; rcases List.mem_cons.mp hv with rfl | hv; rfl; exact ih v hv

theorem joined_empty : ∀ (ps : List (Array UInt8)) (k : Nat) (out : Array UInt8), (ps.zipIdx k).foldl (fun out (p, i) => (if i > 0 then out ++ (#[] : Array UInt8) else out) ++ p) out = ps.foldl (· ++ ·) out
  | [], _, _ => rfl
  | p :: ps, k, out => by
    rw [List.zipIdx_cons, List.foldl_cons, List.foldl_cons]
    have e : (if k > 0 then out ++ (#[] : Array UInt8) else out) = out := by split <;> simp
    show (ps.zipIdx (k + 1)).foldl _ ((if k > 0 then out ++ (#[] : Array UInt8) else out) ++ p) = _
    rw [e]
    exact joined_empty ps (k + 1) _

theorem fold_size : ∀ (ps : List (Array UInt8)) (out : Array UInt8), (∀ b ∈ ps, b.size ≤ 1000) → (ps.foldl (· ++ ·) out).size ≤ out.size + 1000 * ps.length
  | [], out, _ => by simp
  | p :: ps, out, h => by
    have h1 := fold_size ps (out ++ p) fun b hb => h b (.tail _ hb)
    have h2 := h p (.head _)
    rw [Array.size_append] at h1
    rw [List.foldl_cons, List.length_cons]
    omega
theorem fold_sizes : ∀ (ps : List (Array UInt8)) (n : Nat), (∀ b ∈ ps, b.size ≤ 1000) → ps.foldl (fun a b => a + b.size) n ≤ n + 1000 * ps.length
  | [], n, _ => by simp
  | p :: ps, n, h => by
    have h1 := fold_sizes ps (n + p.size) fun b hb => h b (.tail _ hb)
    have h2 := h p (.head _)
    rw [List.foldl_cons, List.length_cons]
    omega

theorem bytes_join {P : Addr} {vs : List Value} {bs : List (Array UInt8)} {t : Tok} {Q : Value → Shared → Prop} (hl : s.heap.IsList P vs.toArray) (hB : BytesAre vs bs) (hlen : vs.length ≤ 100) (hsz : ∀ b ∈ bs, b.size ≤ 1000)
    (h : ∀ u tk, Q (.bytes (bs.foldl (· ++ ·) #[]) u) { s with toks := tk }) : wpAny (model prog w) A (call (.builtin "bytes.join") [.bytes #[] t, .ref P]) Q E s := by
  have hbl := hB.length
  obtain ⟨o, ho, hc, n, hd⟩ := hl
  refine wpAny_call_entry slot_bj (PySem.W.typeIs_bytes _ _ _) entry_bj ?_ (args_bj _ _)
  unfold Builtin.«bytes.join» Builtin.Bytes.joinM
  refine wpAny_bind (wpAny_pure ?_)
  dsimp only
  refine wpAny_bind ?_
  refine wpAny_bind (wpAny_typeOf ⟨o, ho, hc⟩ ?_)
  refine wpAny_pure ?_
  refine wpAny_bind (wpAny_seqItems ho hd ?_)
  dsimp only
  rw [if_pos (by decide)]
  by_cases h1 : vs.length = 1
  · obtain ⟨v, rfl⟩ := List.length_eq_one_iff.mp h1
    cases hB with
    | cons b u r =>
      cases r
      refine wpAny_bind (m := typeOf (.bytes b u)) (wpAny_typeOf (PySem.W.typeIs_bytes _ _ _) ?_)
      rw [if_pos (by decide)]
      refine wpAny_bind (wpAny_rule ?_)
      have := h u s.toks
      simp only [List.foldl_cons, List.foldl_nil, Array.empty_append] at this
      exact wpAny_pure ⟨_, rfl, this⟩
  · rcases vs with _ | ⟨v, _ | ⟨v', r⟩⟩
    case' nil =>
      refine wpAny_bind ?_
      generalize hvv : ([] : List Value) = vs at *
    case' cons.nil => exact absurd rfl h1
    case' cons.cons =>
      refine wpAny_bind ?_
      generalize hvv : v :: v' :: r = vs at *
    all_goals
      clear hvv
      rw [Std.Legacy.Range.forIn_eq_forIn_range']
      have hN : vs.toArray.size = vs.length := by simp
      simp only [Std.Legacy.Range.size, Nat.sub_zero, Nat.add_sub_cancel, Nat.div_one, hN]
      refine wpAny_mono (wpAny_forIn_list _ (fun rest st s' => s' = s ∧ ∃ i, rest = List.range' i (vs.length - i) ∧ i ≤ vs.length ∧ st = ((bs.take i).toArray, (vs.take i).map fun v => (v, none))) (fun st s' => s' = s ∧ st = (bs.toArray, vs.map fun v => (v, none))) ?turn ?fin _ _ ?beg) ?post fun _ _ e => e
      case beg => exact ⟨rfl, 0, rfl, Nat.zero_le _, rfl⟩
      case fin =>
        rintro st s' ⟨rfl, i, hr, hi, rfl⟩
        have : i = vs.length := by
          rcases Nat.lt_or_ge i vs.length with g | g
          · obtain ⟨k, hk⟩ : ∃ k, vs.length - i = k + 1 := ⟨vs.length - i - 1, by omega⟩
            rw [hk, List.range'_succ] at hr; cases hr
          · omega
        subst this
        refine ⟨rfl, ?_⟩
        rw [List.take_length, hbl, List.take_length]
      case turn =>
        rintro x rest st s' ⟨rfl, i, hr, hi, rfl⟩
        have hlt : i < vs.length := by
          rcases Nat.lt_or_ge i vs.length with g | g
          · exact g
          · rw [show vs.length - i = 0 by omega] at hr; cases hr
        obtain ⟨k, hk⟩ : ∃ k, vs.length - i = k + 1 := ⟨vs.length - i - 1, by omega⟩
        rw [hk, List.range'_succ] at hr
        obtain ⟨rfl, rfl⟩ := List.cons.inj hr
        obtain ⟨b, u, ev, eb⟩ := bytes_get hB hlt
        have hget : vs.toArray.getD x Value.none = .bytes b u := by
          rw [Array.getD_eq_getD_getElem?, List.getElem?_toArray, List.getElem?_eq_getElem hlt, ev]; rfl
        refine wpAny_bind (wpAny_seqItems ho hd ?_)
        dsimp only
        have hany : (((vs.take x).map fun v => ((v, none) : Value × Option Value)).any fun x => x.1.onHeap) = false := by
          rw [List.any_map, List.any_eq_false]
          intro v hv
          rw [Function.comp, noHeap hB v (List.mem_of_mem_take hv)]
          decide
        rw [hget, hany]
        rw [if_neg (by decide)]
        refine wpAny_bind (wpAny_holding ?_)
        rw [take_eq]
        refine wpAny_pure ?_
        dsimp only
        refine wpAny_bind (wpAny_seqItems ho hd ?_)
        dsimp only
        rw [if_neg (by simp)]
        refine wpAny_pure ⟨rfl, x + 1, by congr 1; omega, hlt, ?_⟩
        rw [List.take_succ, eb, List.take_succ, List.getElem?_eq_getElem hlt, ev]
        simp
      case post =>
        rintro st s' ⟨rfl, rfl⟩
        dsimp only
        refine wpAny_bind (wpAny_pure ?_)
        have hsum : bs.toArray.foldl (fun x1 x2 => x1 + x2.size) ((#[] : Array UInt8).size * (bs.toArray.size - 1)) ≤ 100000 := by
          have := fold_sizes bs (#[] : Array UInt8).size hsz
          simp at this ⊢
          omega
        rw [KBy.tooLong_not (Nat.le_trans hsum (by decide))]
        rw [if_neg (by decide)]
        have hj : Builtin.Bytes.joined #[] bs = bs.foldl (· ++ ·) #[] := joined_empty bs 0 #[]
        have hjs : (Builtin.Bytes.joined #[] bs).size ≤ sizeLine := by
          have := fold_size bs #[] hsz
          rw [hj, sizeLine_eq]
          simp at this
          omega
        refine wpAny_bind (wpAny_mkBytes ?_ hjs)
        refine wpAny_bind (wpAny_holding (wpAny_point ?_))
        refine wpAny_bind (letGo_none vs _ ?_)
        rw [hj]
        exact wpAny_pure ⟨_, rfl, h _ _⟩
end
end Mine
end

section
open PySem PySem.W PyProof.Rows PySem.Calls PySem.Spec TI
set_option maxRecDepth 100000
namespace Mine
/-- the sign that a number of the script gives -/
def signOf (x : Int) : Nat := if x.fmod 4 = 3 then (128 + (x.fdiv 4).fmod 50000).toNat else ((x.fdiv 4).fmod 128).toNat
/-- the text that the script builds -/
def textOf (ns : List Int) : Str := ⟨#[97, 98, 233, 99] ++ (ns.map signOf).toArray⟩
theorem textOf_snoc (l : List Int) (n : Int) : textOf (l ++ [n]) = textOf l ++ ⟨#[signOf n]⟩ := by
  show (⟨#[97, 98, 233, 99] ++ ((l ++ [n]).map signOf).toArray⟩ : Str) = ⟨(#[97, 98, 233, 99] ++ (l.map signOf).toArray) ++ #[signOf n]⟩
  congr 1
  simp

theorem textOf_size (ns : List Int) : (textOf ns).cps.size = ns.length + 4 := by
  show (#[97, 98, 233, 99] ++ (ns.map signOf).toArray : Array Nat).size = _
  simp

theorem signOf_small (x : Int) : signOf x < 100000 := by
  unfold signOf
  have h1 : (x.fdiv 4).fmod 50000 < 50000 := Int.fmod_lt_of_pos _ (by omega)
  have h2 : (x.fdiv 4).fmod 128 < 128 := Int.fmod_lt_of_pos _ (by omega)
  split <;> omega

theorem textOf_small (ns : List Int) : ∀ c ∈ (textOf ns).cps, c < 100000 := by
  intro c hc
  have : c ∈ (#[97, 98, 233, 99] ++ (ns.map signOf).toArray : Array Nat) := hc
  simp only [Array.mem_append, List.mem_toArray, List.mem_map] at this
  rcases this with h | ⟨x, _, rfl⟩
  · simp at h
    omega
  · exact signOf_small x

theorem bytes_at : ∀ {vs : List Value} {bs : List (Array UInt8)}, BytesAre vs bs → ∀ {i : Nat} {v : Value}, vs[i]? = some v → ∃ b t, v = .bytes b t
  | _, _, .nil, i, v, h => by simp at h
  | _, _, .cons b t r, 0, v, h => ⟨b, t, by simpa using h.symm⟩
  | _, _, .cons b t r, i + 1, v, h => bytes_at r (by simpa using h)

theorem strs_vals {vs : List Value} {ss : List Str} (h : StrsAre vs ss) : ∃ l : List (Str × Tok), vs = strValues l ∧ l.map (·.1) = ss := by
  induction h with
  | nil => exact ⟨[], rfl, rfl⟩
  | cons y u _ ih =>
    obtain ⟨l, e1, e2⟩ := ih
    exact ⟨(y, u) :: l, by rw [e1]; rfl, by rw [← e2]; rfl⟩

theorem piece_size {c : Nat} (hc : c < 100000) : (piece c).length ≤ 9 := by
  unfold piece
  split
  · show (#[c] : Array Nat).size ≤ 9
    simp
  · exact spell_size c hc

theorem pieces_sum : ∀ (l : List Nat), (∀ c ∈ l, c < 100000) → ((l.map piece).map (·.length)).sum ≤ 9 * l.length
  | [], _ => by simp
  | c :: l, h => by
    have h1 := pieces_sum l fun x hx => h x (.tail _ hx)
    have h2 := piece_size (h c (.head _))
    simp only [List.map_cons, List.sum_cons, List.length_cons]
    omega

/-- the text with each sign beyond ASCII spelled in its place -/
def spelledOf (x : Str) : Str := Txt.join (Str.ofString "") (x.cps.toList.map piece)

theorem parts_size (x : Str) (hx : x.cps.size ≤ 90) (hcp : ∀ c ∈ x.cps, c < 100000) : ∀ n a b, a < b → b ≤ x.cps.size → ∀ p ∈ partsOf x n a b, p.size ≤ 1000
  | 0, a, b, _, _ => by simp [partsOf]
  | n + 1, a, b, hab, hb => by
    intro p hp
    unfold partsOf at hp
    split at hp
    · rw [List.mem_singleton.mp hp]
      show ((cut x a b).cps.map _).size ≤ 1000
      rw [Array.size_map]
      show (x.cps.extract a b).size ≤ 1000
      rw [Array.size_extract]; omega
    · split at hp
      · rw [List.mem_singleton.mp hp]
        have hc : x.cps.getD a 0 < 100000 := by
          rw [Array.getD_eq_getD_getElem?, getElem?_pos x.cps a (by omega)]
          exact hcp _ (by simp)
        have := spell_size _ hc
        show ((spell (x.cps.getD a 0)).cps.map _).size ≤ 1000
        rw [Array.size_map]
        omega
      · rcases List.mem_append.mp hp with hp | hp
        · exact parts_size x hx hcp n a ((a + b) / 2) (by omega) (by omega) p hp
        · exact parts_size x hx hcp n ((a + b) / 2) b (by omega) (by omega) p hp


theorem join_list : ∀ l : List Str, (Txt.join (Str.ofString "") l).cps.toList = l.flatMap fun s => s.cps.toList := by
  have key : ∀ (l : List Str) (acc : Array Nat), (l.foldl (fun acc p => acc ++ (Str.ofString "").cps ++ p.cps) acc).toList = acc.toList ++ l.flatMap fun s => s.cps.toList := by
    intro l
    induction l with
    | nil => intro acc; simp
    | cons p l ih =>
      intro acc
      rw [List.foldl_cons, ih]
      have : (Str.ofString "").cps = #[] := rfl
      simp [this]
  intro l
  cases l with
  | nil => rfl
  | cons p l =>
    show (l.foldl _ p.cps).toList = _
    rw [key]
    simp

theorem spelled_list (x : Str) : (spelledOf x).cps.toList = x.cps.toList.flatMap fun c => (piece c).cps.toList := by
  unfold spelledOf
  rw [join_list, List.flatMap_map]

theorem piece_ascii (c : Nat) : ∀ k ∈ (piece c).cps, k < 128 := by
  intro k hk
  unfold piece at hk
  split at hk
  · rename_i h
    have : k = c := by simpa using hk
    omega
  · exact spell_ascii c k hk

theorem spelled_ascii (x : Str) : ∀ k ∈ (spelledOf x).cps, k < 128 := by
  intro k hk
  have : k ∈ (spelledOf x).cps.toList := by simpa using hk
  rw [spelled_list] at this
  obtain ⟨c, _, hc⟩ := List.mem_flatMap.mp this
  exact piece_ascii c k (by simpa using hc)

theorem spelled_size (x : Str) (hcp : ∀ c ∈ x.cps, c < 100000) : (spelledOf x).cps.size ≤ 9 * x.cps.size := by
  rw [← Array.length_toList, spelled_list]
  have key : ∀ l : List Nat, (∀ c ∈ l, c < 100000) → (l.flatMap fun c => (piece c).cps.toList).length ≤ 9 * l.length := by
    intro l
    induction l with
    | nil => simp
    | cons c l ih =>
      intro h
      have h1 := ih fun x hx => h x (.tail _ hx)
      have h2 : (piece c).cps.size ≤ 9 := piece_size (h c (.head _))
      rw [List.flatMap_cons, List.length_append, List.length_cons, Array.length_toList]
      omega
  have := key x.cps.toList fun c hc => hcp c (by simpa using hc)
  rw [Array.length_toList] at this
  exact this

/-- the bytes that stand for a stretch -/
def bytesFor (l : List Nat) : List UInt8 := l.flatMap fun c => (piece c).cps.toList.map (·.toUInt8)

theorem parts_flat (x : Str) : ∀ n a b, a < b → b ≤ x.cps.size → b - a ≤ n → (partsOf x n a b).flatMap (·.toList) = bytesFor ((x.cps.toList.drop a).take (b - a))
  | 0, a, b, h, _, hn => by omega
  | n + 1, a, b, hab, hb, hn => by
    unfold partsOf
    have hcut : (cut x a b).cps.toList = (x.cps.toList.drop a).take (b - a) := by
      show (x.cps.extract a b).toList = _
      simp
    split
    · rename_i hasc
      rw [List.flatMap_cons, List.flatMap_nil, List.append_nil]
      show ((cut x a b).cps.map _).toList = _
      rw [Array.toList_map, ← hcut]
      unfold bytesFor
      have key : ∀ l : List Nat, (∀ c ∈ l, c < 128) → l.map (fun c : Nat => c.toUInt8) = l.flatMap fun c => (piece c).cps.toList.map (·.toUInt8) := by
        intro l
        induction l with
        | nil => simp
        | cons c l ih =>
          intro h
          rw [List.map_cons, List.flatMap_cons, ← ih fun x hx => h x (.tail _ hx)]
          have hc : c < 128 := h c (.head _)
          simp [piece, hc]
      exact key _ fun c hc => hasc c (by simpa using hc)
    · rename_i hasc
      split
      · rename_i h1
        have hlt : a < x.cps.size := by omega
        have hone : (x.cps.toList.drop a).take (b - a) = [x.cps[a]] := by
          rw [h1, List.drop_eq_getElem_cons (by simpa using hlt)]; simp
        have hge : ¬ x.cps[a] < 128 := fun hlt2 => hasc fun c hc => by
          have : c ∈ (cut x a b).cps.toList := by simpa using hc
          rw [hcut, hone, List.mem_singleton] at this
          rw [this]; exact hlt2
        have hgd : x.cps.getD a 0 = x.cps[a] := by rw [Array.getD_eq_getD_getElem?, getElem?_pos x.cps a hlt]; rfl
        rw [hone, hgd]
        show [bytesOf _].flatMap _ = bytesFor [_]
        unfold bytesFor
        simp only [List.flatMap_cons, List.flatMap_nil, List.append_nil]
        rw [piece, if_neg hge]
        show ((spell _).cps.map _).toList = _
        rw [Array.toList_map]
      · rename_i h1
        rw [List.flatMap_append, parts_flat x n a ((a + b) / 2) (by omega) (by omega) (by omega), parts_flat x n ((a + b) / 2) b (by omega) (by omega) (by omega)]
        unfold bytesFor
        rw [← List.flatMap_append]
        congr 1
        have e1 : b - a = ((a + b) / 2 - a) + (b - (a + b) / 2) := by omega
        rw [e1, List.take_add, List.drop_drop]
        congr 3
        omega

theorem fold_flat : ∀ (ps : List (Array UInt8)) (out : Array UInt8), (ps.foldl (· ++ ·) out).toList = out.toList ++ ps.flatMap (·.toList)
  | [], out => by simp
  | p :: ps, out => by
    rw [List.foldl_cons, fold_flat ps]
    simp

/-- the parts end to end are the spelled text's bytes -/
theorem parts_law (x : Str) (h0 : 0 < x.cps.size) (n : Nat) (hn : x.cps.size ≤ n) :
    ((partsOf x n 0 x.cps.size).foldl (· ++ ·) #[]).toList = (byteArr ((spelledOf x).cps.toList.map fun k : Nat => (k : Int))).toList := by
  rw [fold_flat, parts_flat x n 0 x.cps.size h0 (Nat.le_refl _) (by omega)]
  rw [List.drop_zero, Nat.sub_zero, List.take_of_length_le (by simp)]
  unfold byteArr bytesFor
  rw [spelled_list]
  simp [List.map_flatMap, Function.comp_def]

theorem char_at {x : Str} {a : Nat} (ha : a < x.cps.size) : (Txt.charAt x (a : Int)).getD 0 = x.cps.getD a 0 := by
  unfold Txt.charAt
  have : seqIndex? (a : Int) x.length = some a := by
    unfold seqIndex?
    have h2 : x.length = x.cps.size := rfl
    simp
    omega
  rw [this]
  simp [ha]

/-- the places of the signs beyond ASCII among the first i -/
def places (x : Str) (i : Nat) : List Int := ((List.range i).filter fun k => decide (127 < x.cps.getD k 0)).map fun k : Nat => (k : Int)
theorem places_yes {x : Str} {i : Nat} (h : 127 < x.cps.getD i 0) : places x (i + 1) = places x i ++ [(i : Int)] := by
  unfold places
  rw [List.range_succ, List.filter_append, List.map_append, List.filter_cons_of_pos (by simpa using h)]
  rfl
theorem places_no {x : Str} {i : Nat} (h : ¬ 127 < x.cps.getD i 0) : places x (i + 1) = places x i := by
  unfold places
  rw [List.range_succ, List.filter_append, List.filter_cons_of_neg (by simpa using h)]
  simp
theorem places_len (x : Str) (i : Nat) : (places x i).length ≤ i := by
  unfold places
  rw [List.length_map]
  exact Nat.le_trans (List.length_filter_le _ _) (by simp)
theorem mem_places {x : Str} {i : Nat} {p : Int} : p ∈ places x i ↔ ∃ k : Nat, p = k ∧ k < i ∧ 127 < x.cps.getD k 0 := by
  unfold places
  simp only [List.mem_map, List.mem_filter, List.mem_range, decide_eq_true_eq]
  constructor
  · rintro ⟨k, ⟨h1, h2⟩, rfl⟩; exact ⟨k, rfl, h1, h2⟩
  · rintro ⟨k, rfl, h1, h2⟩; exact ⟨k, ⟨h1, h2⟩, rfl⟩
end Mine
end

section
open PySem PySem.W PyProof.Rows PySem.Calls PySem.Spec TI
set_option maxRecDepth 100000
namespace Mine

theorem asc_iff {x : Str} {a b : Nat} (hb : b ≤ x.cps.size) : asc x a b ↔ ∀ p, a ≤ p → p < b → ¬ 127 < x.cps.getD p 0 := by
  have hcut : (cut x a b).cps.toList = (x.cps.toList.drop a).take (b - a) := by
    show (x.cps.extract a b).toList = _
    simp
  constructor
  · intro h p h1 h2
    have hp : p < x.cps.size := by omega
    have hg : x.cps.getD p 0 = x.cps[p] := by rw [Array.getD_eq_getD_getElem?, getElem?_pos x.cps p hp]; rfl
    have hm : x.cps[p] ∈ (cut x a b).cps.toList := by
      rw [hcut, List.mem_iff_getElem]
      refine ⟨p - a, by simp; omega, ?_⟩
      simp only [List.getElem_take, List.getElem_drop, Array.getElem_toList]
      congr 1; omega
    have := h _ (by simpa using hm)
    rw [hg]; omega
  · intro h c hc
    have hm : c ∈ (cut x a b).cps.toList := by simpa using hc
    rw [hcut, List.mem_iff_getElem] at hm
    obtain ⟨i, hi, e⟩ := hm
    have hi' : i < b - a ∧ a + i < x.cps.size := by simp at hi; omega
    have hg : x.cps.getD (a + i) 0 = x.cps[a + i] := by rw [Array.getD_eq_getD_getElem?, getElem?_pos x.cps (a + i) hi'.2]; rfl
    have h1 := h (a + i) (by omega) (by omega)
    rw [hg] at h1
    simp only [List.getElem_take, List.getElem_drop, Array.getElem_toList] at e
    rw [← e]; omega

theorem mem_refs (x : Str) : ∀ (n n' a b : Nat) (k : Int), a < b → b ≤ x.cps.size → b - a ≤ n → b - a ≤ n' →
    (k ∈ refsOf x n a b ↔ ∃ p : Nat, a ≤ p ∧ p < b ∧ 127 < x.cps.getD p 0 ∧ k ∈ wayOf p n' a b)
  | 0, n', a, b, k, h, _, hn, _ => by omega
  | n + 1, 0, a, b, k, h, _, _, hn => by omega
  | n + 1, n' + 1, a, b, k, hab, hb, hn, hn' => by
    unfold refsOf
    split
    · rename_i hasc
      constructor
      · intro h; cases h
      · rintro ⟨p, h1, h2, h3, _⟩
        exact absurd h3 ((asc_iff hb).mp hasc p h1 h2)
    · rename_i hasc
      have hbad : ∃ p : Nat, a ≤ p ∧ p < b ∧ 127 < x.cps.getD p 0 := by
        apply Classical.byContradiction
        intro hno
        exact hasc ((asc_iff hb).mpr fun p h1 h2 h3 => hno ⟨p, h1, h2, h3⟩)
      by_cases h1 : b - a = 1
      · rw [if_pos h1]
        constructor
        · intro hk
          obtain ⟨p, p1, p2, p3⟩ := hbad
          refine ⟨p, p1, p2, p3, ?_⟩
          rw [wayOf, if_pos (by omega)]
          exact hk
        · rintro ⟨p, p1, p2, p3, hk⟩
          rw [wayOf, if_pos (by omega)] at hk
          exact hk
      · rw [if_neg h1]
        have c1 : ¬ b - a ≤ 1 := by omega
        have d1 : (a + b) / 2 ≤ b := by omega
        have d2 : a ≤ (a + b) / 2 := by omega
        have hL := mem_refs x n n' a ((a + b) / 2) k (by omega) (by omega) (by omega) (by omega)
        have hR := mem_refs x n n' ((a + b) / 2) b k (by omega) (by omega) (by omega) (by omega)
        rw [List.mem_cons, List.mem_append, hL, hR]
        constructor
        · rintro (hk | ⟨p, p1, p2, p3, hk⟩ | ⟨p, p1, p2, p3, hk⟩)
          · obtain ⟨p, p1, p2, p3⟩ := hbad
            exact ⟨p, p1, p2, p3, by rw [wayOf, hk]; exact .head _⟩
          · clear hbad
            refine ⟨p, p1, Nat.lt_of_lt_of_le p2 d1, p3, ?_⟩
            have c2 : (p : Int) < (((a + b) / 2 : Nat) : Int) := Int.ofNat_lt.mpr p2
            rw [wayOf, if_neg c1, if_pos c2]
            exact .tail _ hk
          · clear hbad
            refine ⟨p, Nat.le_trans d2 p1, p2, p3, ?_⟩
            have c2 : ¬ (p : Int) < (((a + b) / 2 : Nat) : Int) := fun h => absurd (Int.ofNat_lt.mp h) (Nat.not_lt.mpr p1)
            rw [wayOf, if_neg c1, if_neg c2]
            exact .tail _ hk
        · clear hbad
          rintro ⟨p, p1, p2, p3, hk⟩
          rw [wayOf, if_neg c1] at hk
          rcases List.mem_cons.mp hk with hk | hk
          · exact .inl hk
          · by_cases c : (p : Int) < (((a + b) / 2 : Nat) : Int)
            · rw [if_pos c] at hk
              exact .inr (.inl ⟨p, p1, Int.ofNat_lt.mp c, p3, hk⟩)
            · rw [if_neg c] at hk
              exact .inr (.inr ⟨p, Nat.not_lt.mp fun h => c (Int.ofNat_lt.mpr h), p2, p3, hk⟩)

theorem refs_nodup (x : Str) : ∀ (n a b : Nat), a < b → b ≤ 99 → (refsOf x n a b).Nodup ∧ ∀ k ∈ refsOf x n a b, ∃ u v : Nat, k = 100 * (u : Int) + v ∧ a ≤ u ∧ u < v ∧ v ≤ b
  | 0, a, b, _, _ => by simp [refsOf]
  | n + 1, a, b, hab, hb => by
    unfold refsOf
    split
    · simp
    · by_cases h1 : b - a = 1
      · rw [if_pos h1]
        refine ⟨by simp, fun k hk => ?_⟩
        rw [List.mem_singleton] at hk
        exact ⟨a, b, hk, by omega, hab, by omega⟩
      · rw [if_neg h1]
        obtain ⟨l1, l2⟩ := refs_nodup x n a ((a + b) / 2) (by omega) (by omega)
        obtain ⟨r1, r2⟩ := refs_nodup x n ((a + b) / 2) b (by omega) (by omega)
        refine ⟨List.nodup_cons.mpr ⟨fun hm => ?_, List.nodup_append.mpr ⟨l1, r1, fun p hp q hq e => ?_⟩⟩, fun k hk => ?_⟩
        · rcases List.mem_append.mp hm with hm | hm
          · obtain ⟨u, v, e, h2, h3, h4⟩ := l2 _ hm
            omega
          · obtain ⟨u, v, e, h2, h3, h4⟩ := r2 _ hm
            omega
        · obtain ⟨u, v, e1, h2, h3, h4⟩ := l2 _ hp
          obtain ⟨u', v', e2, h2', h3', h4'⟩ := r2 _ hq
          omega
        · rcases List.mem_cons.mp hk with hk | hk
          · exact ⟨a, b, hk, by omega, hab, by omega⟩
          · rcases List.mem_append.mp hk with hk | hk
            · obtain ⟨u, v, e, h2, h3, h4⟩ := l2 _ hk
              exact ⟨u, v, e, h2, h3, by omega⟩
            · obtain ⟨u, v, e, h2, h3, h4⟩ := r2 _ hk
              exact ⟨u, v, e, by omega, h3, h4⟩

theorem same_sorted : ∀ {a b : List Int}, a.Pairwise (· ≤ ·) → b.Pairwise (· ≤ ·) → a.Nodup → b.Nodup → (∀ k, k ∈ a ↔ k ∈ b) → a = b
  | [], b, _, _, _, _, h => by
    cases b with
    | nil => rfl
    | cons y r => exact absurd ((h y).mpr (.head _)) (by simp)
  | x :: a, b, ha, hb, na, nb, h => by
    cases b with
    | nil => exact absurd ((h x).mp (.head _)) (by simp)
    | cons y b =>
      have ha' := List.pairwise_cons.mp ha
      have hb' := List.pairwise_cons.mp hb
      have na' := List.nodup_cons.mp na
      have nb' := List.nodup_cons.mp nb
      have e : x = y := by
        have h1 := (h x).mp (.head _)
        have h2 := (h y).mpr (.head _)
        rcases List.mem_cons.mp h1 with e | h1
        · exact e
        · rcases List.mem_cons.mp h2 with e | h2
          · exact e.symm
          · have := hb'.1 x h1
            have := ha'.1 y h2
            omega
      subst e
      congr 1
      refine same_sorted ha'.2 hb'.2 na'.2 nb'.2 fun k => ⟨fun hk => ?_, fun hk => ?_⟩
      · rcases List.mem_cons.mp ((h k).mp (.tail _ hk)) with e | h1
        · subst e; exact absurd hk na'.1
        · exact h1
      · rcases List.mem_cons.mp ((h k).mpr (.tail _ hk)) with e | h1
        · subst e; exact absurd hk nb'.1
        · exact h1

/-- the refused parts, sorted, are the ways, sorted -/
theorem refs_law {x : Str} (h0 : 0 < x.cps.size) (h90 : x.cps.size ≤ 90) {n : Nat} (hn : x.cps.size ≤ n) {r v : List Int} (hp : r.Perm (refsOf x n 0 x.cps.size)) (hr : r.Pairwise (· ≤ ·)) (hv : v.Pairwise (· ≤ ·)) (hd : v.Nodup)
    (hm : ∀ k, k ∈ v ↔ k ∈ (places x x.cps.size).flatMap fun p => wayOf p 100 0 x.cps.size) : r = v := by
  obtain ⟨hnd, _⟩ := refs_nodup x n 0 x.cps.size h0 (by omega)
  refine same_sorted hr hv (hp.nodup_iff.mpr hnd) hd fun k => ?_
  rw [hp.mem_iff, mem_refs x n 100 0 x.cps.size k h0 (Nat.le_refl _) (by omega) (by omega), hm, List.mem_flatMap]
  constructor
  · rintro ⟨p, _, p2, p3, hk⟩
    exact ⟨p, mem_places.mpr ⟨p, rfl, p2, p3⟩, hk⟩
  · rintro ⟨p, hp, hk⟩
    obtain ⟨q, rfl, q1, q2⟩ := mem_places.mp hp
    exact ⟨q, Nat.zero_le _, q1, q2, hk⟩
end Mine
end

section
open PySem PySem.W PyProof.Rows PySem.Calls PySem.Spec TI
set_option maxRecDepth 100000
namespace Mine
local macro_rules | `(tactic| walk_at "km steps") => `(tactic| repeat' ((fail_if_success (with_reducible show wpAny _ _ (exec (Stmt.For _ _ _ _ _) _) _ _ _)); (fail_if_success (with_reducible show wpAny _ _ (exec (Stmt.While _ _ _ _) _) _ _ _)); first | (k_unfold; (try dsimp only)) | (k_end; wrow_close) | walk1 | (dsimp only; walk1) | (leave1; walk_say "STEP leave1"; try dsimp only)))
local macro_rules | `(tactic| walk_at "km steps3") => `(tactic| repeat' ((fail_if_success (with_reducible show wpAny _ _ (call (Value.ref _) _) _ _ _)); (fail_if_success (with_reducible show wpAny _ _ (eval (Expr.ListComp _ _ _ _) _) _ _ _)); (fail_if_success (with_reducible show wpAny _ _ (exec (Stmt.For _ _ _ _ _) _) _ _ _)); first | (k_unfold; (try dsimp only)) | (k_end; wrow_close) | walk1 | (dsimp only; walk1) | (leave1; walk_say "STEP leave1"; try dsimp only)))
local macro_rules | `(tactic| walk_at "km steps4") => `(tactic| repeat' ((fail_if_success (with_reducible refine (?_ : LCt.CompSrcT _ _ _ _ _ _ _ _ _ _ _ _ _ _ _))); (fail_if_success (with_reducible show wpAny _ _ (call (Value.ref _) _) _ _ _)); first | (k_unfold; (try dsimp only)) | walk1 | (dsimp only; walk1)))
local macro_rules | `(tactic| walk_at "km steps2") => `(tactic| repeat' ((fail_if_success (with_reducible show wpAny _ _ (call (Value.ref _) _) _ _ _)); (fail_if_success (with_reducible show wpAny _ _ (exec (Stmt.For _ _ _ _ _) _) _ _ _)); first | (k_unfold; (try dsimp only)) | (k_end; wrow_close) | walk1 | (dsimp only; walk1) | (leave1; walk_say "STEP leave1"; try dsimp only)))
set_option maxHeartbeats 8000000 in
theorem tt : PySem.Challenge.rw_km0001_01.Holds := Mine.hd (by
  k_go0
  k_fold
  walk_at "km steps"
  rename Fr _ _ _ _ => F2
  rename News _ _ _ _ => N2
  rename Shared => s₁
  rename World => w
  rename IntsAre _ _ => hI
  rename List Int => ns
  rename List Value => vs
  rename _ = Data.cell (some _) => hcell
  rename Obj => oc
  refine For_invVF F2 rfl rfl ?_
  walk1
  walk_at "km steps"
  rename Fr _ _ _ _ => F3
  rename News _ _ _ _ => N3
  rename IntsAre _ _ => hI3
  rename List Value => ws
  rename Addr => D
  rename _ < D => hD
  rename ¬ ((63 : Int) < _) => hlen
  have hlen' : ns.length ≤ 63 := by omega
  rw [List.take_of_length_le (by omega)] at hI3
  refine iter_invNL (fun i m nx => ∃ oc tt, nx = [(D, listOf ws.toArray 0), (s₁.heap.objs.size + 1, oc)] ∧ oc.data = Data.cell (some (.str (textOf (ns.take i)) tt))) rfl (.head _) hI3 F3 N3 ⟨oc, _, rfl, hcell⟩ ?_ ?_
  · rintro i n tn m₁ nx h4 tk4 own hn hmap hoff hin ⟨oc1, tt, rfl, hcell1⟩ F4 N4
    have hsz : (textOf (ns.take i)).length ≤ 100 := by
      show (#[97, 98, 233, 99] ++ ((ns.take i).map signOf).toArray : Array Nat).size ≤ 100
      simp [List.length_take]; omega
    walk_at "km steps"
    all_goals
      rename Fr _ _ _ _ => F5
      rename News _ _ _ _ => N5
      rename _ = Data.cell _ => hcell5
      rename Obj => oc5
      have hi1 : i < ns.length := (List.getElem?_eq_some_iff.mp hn).1
      have hn2 := (List.getElem?_eq_some_iff.mp hn).2
      obtain ⟨t6, hcell6⟩ : ∃ t, oc5.data = Data.cell (some (.str (textOf (ns.take (i + 1))) t)) := by
        rw [List.take_succ_eq_append_getElem hi1, textOf_snoc, hn2, signOf]
        first
          | (rw [if_pos (by assumption)]; exact ⟨_, hcell5⟩)
          | (rw [if_neg (by assumption)]; exact ⟨_, hcell5⟩)
      refine InvEndN.intro (nx := [(D, listOf ws.toArray 0), (s₁.heap.objs.size + 1, oc5)]) F5 N5 ⟨.head _, oc5, t6, rfl, hcell6⟩ rfl (fun p hp => ?_) (fun p hp => ?_)
      · rcases List.mem_cons.mp hp with rfl | hp
        · exact .head _
        · rw [List.mem_singleton.mp hp]; exact .tail _ (.head _)
      · exact .tail _ (.tail _ hp)
  · rintro m₁ nx h4 tk4 hin ⟨oc1, tt, rfl, hcell1⟩ F4 N4
    rw [List.take_length] at hcell1
    have hsz : (textOf ns).length ≤ 67 := by
      show (textOf ns).cps.size ≤ 67
      rw [textOf_size]; omega
    walk_at "km steps2"
    rename Fr _ _ _ _ => F5
    rename News _ _ _ _ => N5
    rename_i R h6 F6 N6 hR h7
    rename Top _ _ _ _ _ _ => T
    rename Frag.In _ _ => X
    have hcs := textOf_size ns
    refine halves (x := textOf ns) (by omega) (textOf_small ns) 67 _ _ _ _ [] s₁.heap _ _ R [] [] 0 [(D, listOf ws.toArray 0), (s₁.heap.objs.size + 1, oc1)] [] _ 0 (textOf ns).length tt _ _ _ _ X F5 N5 trivial T rfl rfl ?_ ?_ .nil ?_ (Nat.le_refl _) ?_ ?_ ?_ ?_
    · show [(D, listOf ws.toArray 0), (s₁.heap.objs.size + 1, oc1)].all notDict = true
      simp [notDict, hcell1, PySem.W.listOf]
    · intro p hp
      rcases List.mem_cons.mp hp with rfl | hp
      · exact Nat.ne_of_lt hR.1
      · rw [List.mem_singleton.mp hp]; exact Nat.ne_of_lt hR.2
    · show 0 < (textOf ns).cps.size
      omega
    · show (textOf ns).cps.size - 0 ≤ 67
      omega
    · simp
    · show (1 + claimMargin) + 1 + 2 * 67 + 20 < recursionLimit
      decide
    · intro P h8 tk8 vs8 capP items8 cap8 frs8 hB8 hI8 hPR hfr8 hsu8 F8 N8
      obtain rfl : frs8 = [] := by
        cases frs8 with
        | nil => rfl
        | cons p r => exact hfr8.elim
      rw [List.append_nil] at N8
      rw [List.nil_append] at hI8
      clear F6 N6 F5 N5
      walk_at "km steps3"
      rename Fr _ _ _ _ => F9
      rename News _ _ _ _ => N9
      refine LCt.ListComp_T F9 rfl (by decide) rfl (by decide) rfl ?_
      walk1
      have hv8 : vs8.length ≤ 67 := by
        rw [hB8.length]
        exact Nat.le_trans (parts_len (textOf ns) 67 0 (textOf ns).length (by show 0 < (textOf ns).cps.size; omega)) (by show (textOf ns).cps.size - 0 ≤ 67; omega)
      refine LCt.CompSrcT.ledger (its := vs8.toArray) (k := capP) rfl F9 N9 (.tail _ (.head _)) (by rw [List.size_toArray, sizeLine_eq]; omega) fun g => ?_
      refine rest_T (fun _ ys => ys = []) (.inr ⟨_, .tail _ (.head _), rfl, _, rfl⟩) (fun ys hys => ?_) (fun i ys hi hys v I oI C oC D' m₂ h10 tk10 E' hv hNs hxv F10 N10 off ne => ?_) _ 0 [] (Nat.zero_add _) rfl
      case' refine_2 =>
        subst hys
        obtain ⟨bb, tb, rfl⟩ := bytes_at hB8 (by simpa using hv)
        walk_at "km steps3"
      · trivial
      · exact ⟨_, _, rfl, F10, N10⟩
      subst hys
      clear F9 N9
      walk_at "km steps3"
      rename Fr _ _ _ _ => F9
      rename News _ _ _ _ => N9
      refine ListComp_S F9 rfl (by decide) rfl (by decide) rfl ?_
      walk1
      refine ⟨textOf ns, tt, _, rfl, rfl, F9, N9, by rw [sizeLine_eq]; show (textOf ns).cps.size ≤ _; omega, fun g => ?_⟩
      refine rest_U (fun i ys => StrsAre ys (((textOf ns).cps.toList.take i).map piece)) trivial (fun ys hys => ?_) (fun i ys hi hys v I oI C oC D' m₂ h10 tk10 E' hv hNs hxv F10 N10 off ne => ?_) _ 0 [] (Nat.zero_add _) .nil
      case' refine_2 =>
        obtain ⟨c, u, hc, rfl⟩ := hv
        have hc5 : c < 100000 := textOf_small ns c (Array.mem_of_getElem? hc)
        have hci : (textOf ns).cps.toList.take (i + 1) = (textOf ns).cps.toList.take i ++ [c] := by
          rw [List.take_succ, Array.getElem?_toList, hc]; rfl
        rw [hci, List.map_append]
        walk_at "km steps3"
      · have hlt : c < 128 := by omega
        have : [c].map piece = [⟨#[c]⟩] := by simp [piece, hlt]
        rw [this]
        exact strs_snoc hys _ _
      · exact ⟨_, _, rfl, F10, N10⟩
      · have hge : ¬ c < 128 := by omega
        have hpc : [c].map piece = [spell c] := by simp [piece, hge]
        refine spelled0 _ _ _ _ [] s₁.heap _ _ _ c u _ _ X F10 T hc5 (by show 1 + claimMargin + 1 + 10 < recursionLimit; decide) fun u2 h11 tk11 hk11 => ?_
        exact ⟨(by rw [hpc]; exact strs_snoc hys _ _ : StrsAre _ (_ ++ [c].map piece)), _, _, rfl, F10.kept hk11, fun p hp => ⟨hk11 _ _ (N10 p hp).1, (N10 p hp).2⟩⟩
      have hall : (textOf ns).cps.toList.take (textOf ns).cps.size = (textOf ns).cps.toList := List.take_of_length_le (by simp)
      rw [hall] at hys
      clear F9 N9
      walk_at "km steps3"
      rename Fr _ _ _ _ => F9
      rename News _ _ _ _ => N9
      obtain ⟨yl, ey, eyl⟩ := strs_vals hys
      have hpl : ((textOf ns).cps.toList.map piece).length ≤ 67 := by rw [List.length_map, Array.length_toList]; omega
      have hps := pieces_sum (textOf ns).cps.toList fun c hc => textOf_small ns c (by simpa using hc)
      refine SC.join (l := yl) ⟨_, (N9 _ (.head _)).1, rfl, _, by rw [ey]⟩ eyl (joinOk_of (by rw [List.length_map] at hpl; show _ + _ * 0 ≤ _; omega)) fun t12 tk12 => ?_
      rw [show Txt.join (Str.ofString "") ((textOf ns).cps.toList.map piece) = spelledOf (textOf ns) from rfl]
      walk_at "km steps3"
      refine method_bj ?_
      walk_at "km steps3"
      rename News _ _ _ _ => N10
      refine bytes_join ⟨_, (N10 _ (.tail _ (.tail _ (.tail _ (.tail _ (.head _)))))).1, rfl, _, rfl⟩ hB8 (by omega) (parts_size _ (by omega) (textOf_small ns) 67 0 _ (by show 0 < (textOf ns).cps.size; omega) (Nat.le_refl _)) fun t13 tk13 => ?_
      walk_at "km steps3"
      rename Fr _ _ _ _ => F11
      rename News _ _ _ _ => N11
      have hss := spelled_size (textOf ns) (textOf_small ns)
      refine ListComp_S F11 rfl (by decide) rfl (by decide) rfl ?_
      walk1
      refine ⟨spelledOf (textOf ns), t12, _, rfl, rfl, F11, N11, by rw [sizeLine_eq]; omega, fun g => ?_⟩
      refine rest_U (fun i ys => IntsAre ys (((spelledOf (textOf ns)).cps.toList.take i).map fun k : Nat => (k : Int))) trivial (fun ys hys => ?_) (fun i ys hi hys v I oI C oC D' m₂ h10 tk10 E' hv hNs hxv F10 N10 off ne => ?_) _ 0 [] (Nat.zero_add _) .nil
      case' refine_2 =>
        obtain ⟨c, u, hc, rfl⟩ := hv
        have hci : (spelledOf (textOf ns)).cps.toList.take (i + 1) = (spelledOf (textOf ns)).cps.toList.take i ++ [c] := by
          rw [List.take_succ, Array.getElem?_toList, hc]; rfl
        rw [hci, List.map_append]
        walk_at "km steps3"
      · exact ints_snoc hys _ _
      · exact ⟨_, _, rfl, F10, N10⟩
      have hall4 : (spelledOf (textOf ns)).cps.toList.take (spelledOf (textOf ns)).cps.size = (spelledOf (textOf ns)).cps.toList := List.take_of_length_le (by simp)
      rw [hall4] at hys
      clear F11 N11
      walk_at "km steps3"
      rename Fr _ _ _ _ => F11
      rename News _ _ _ _ => N11
      refine call_bytes_ints ⟨_, (N11 _ (.head _)).1, rfl, _, rfl⟩ hys (fun n hn => ?_) (by rw [hys.length, List.length_map, Array.length_toList, sizeLine_eq]; omega) rfl fun h14 t14 tk14 hk14 => ?_
      · obtain ⟨k, hk, rfl⟩ := List.mem_map.mp hn
        have := spelled_ascii (textOf ns) k (by simpa using hk)
        omega
      have F12 := F11.kept hk14
      have N12 : News _ _ h14 _ := fun p hp => ⟨hk14 _ _ (N11 p hp).1, (N11 p hp).2⟩
      clear F11 N11
      have hlaw := parts_law (textOf ns) (by omega) 67 (by omega)
      walk_at "km steps3"
      · rename_i hbad
        exfalso
        have hbad' : (((partsOf (textOf ns) 67 0 (textOf ns).cps.size).foldl (· ++ ·) #[]).toList != (byteArr ((spelledOf (textOf ns)).cps.toList.map fun k : Nat => (k : Int))).toList) = true := hbad
        rw [hlaw] at hbad'
        simp at hbad'
      have hrl : (refsOf (textOf ns) 67 0 (textOf ns).length).length ≤ 134 := by
        have h1 := refs_len (textOf ns) 67 0 (textOf ns).length (by show 0 < (textOf ns).cps.size; omega)
        have h2 : (textOf ns).length ≤ 67 := hsz
        omega
      refine sorted_list F12 N12 ⟨_, (N12 _ (.tail _ (.tail _ (.tail _ (.tail _ (.head _)))))).1, rfl, _, rfl⟩ hI8 (by omega) fun D2 h15 tk15 vs15 ns15 c15 F15 N15 l15 hk15 hI15 hp15 hs15 => ?_
      clear F12 N12
      walk_at "km steps3"
      refine LCt.ListComp_T F15 rfl (by decide) rfl (by decide) rfl ?_
      walk_at "km steps4"
      rename IsRange _ _ _ _ _ _ _ _ => hR16
      rename Fr _ _ _ _ => F16
      rename News _ _ _ _ => N16
      refine LCt.CompSrcT.range (n := (textOf ns).cps.size) rfl F16 N16 hR16 (small_one (by decide) (by decide) (by show -(2 ^ 62) ≤ ((textOf ns).cps.size : Int); omega) (by show ((textOf ns).cps.size : Int) < 2 ^ 62; omega)) (by rw [rangeSize_nat]; show (((textOf ns).cps.size : Int) - 0).toNat = (((textOf ns).cps.size : Nat) : Int); omega) (by rw [sizeLine_eq]; omega) fun g => ?_
      refine rest_T (fun i ys => IntsAre ys (places (textOf ns) i)) trivial (fun ys hys => ?_) (fun i ys hi hys v I oI C oC D' m₂ h10 tk10 E' hv hNs hxv F10 N10 off ne => ?_) _ 0 [] (Nat.zero_add _) .nil
      case' refine_2 =>
        obtain ⟨tv, rfl⟩ := hv
        rw [Int.zero_add] at hxv
        have hitem : Txt.item (textOf ns) (i : Int) = ⟨#[(textOf ns).cps.getD i 0]⟩ := item_at hi
        walk_at "km steps4"
      · exfalso
        have h2 : (textOf ns).length = (textOf ns).cps.size := rfl
        rename (_ ∨ _) => hor
        rcases hor with hor | hor <;> omega
      · have hp : 127 < (textOf ns).cps.getD i 0 := by
          rename ((127 : Int) < _) => hgt
          rw [char_at hi] at hgt; omega
        rw [places_yes hp]
        exact ints_snoc hys _ _
      · exact ⟨_, _, rfl, F10, N10⟩
      · have hp : ¬ 127 < (textOf ns).cps.getD i 0 := by
          rename (¬ ((127 : Int) < _)) => hgt
          rw [char_at hi] at hgt; omega
        rw [places_no hp]
        exact hys
      · exact ⟨_, _, rfl, F10, N10⟩
      clear F16 N16
      walk_at "km steps3"
      rename Fr _ _ _ _ => F17
      rename News _ _ _ _ => N17
      refine ways _ _ _ _ [] s₁.heap _ _ _ (textOf ns).length _ _ _ _ _ _ X F17 T ⟨_, (N17 _ (.head _)).1, rfl, _, rfl⟩ hys (Nat.le_trans (places_len _ _) (by omega)) (by show (textOf ns).cps.size ≤ 90; omega) (by show 1 + claimMargin + 1 + 10 < recursionLimit; decide) fun D3 h18 d18 tk18 vs18 ns18 c18 hk18 hD18 hD0 hI18 hs18 hn18 hm18 => ?_
      have F18 := F17.kept hk18
      have hNL : D3 ≠ s₁.heap.objs.size := fun e => by
        obtain ⟨oL, _, _, hL, _⟩ := F17.ns
        rw [← e] at hL
        rw [hL] at hD0; cases hD0
      have hN0 : s₁.heap.get? D3 = none := by
        cases hq : s₁.heap.get? D3 with
        | none => rfl
        | some o' => rw [F17.keep _ _ hq] at hD0; cases hD0
      have N18 : News s₁.heap s₁.heap.objs.size h18 ((D3, listOf vs18.toArray c18) :: _) := fun p hp => by
        rcases List.mem_cons.mp hp with rfl | hp
        · exact ⟨hD18, hNL, hN0⟩
        · exact ⟨hk18 _ _ (N17 p hp).1, (N17 p hp).2⟩
      clear F17 N17
      walk_at "km steps3"
      have heq : ns15 = ns18 := refs_law (x := textOf ns) (by omega) (by omega) (n := 67) (by omega) hp15 hs15 hs18 hn18 hm18
      rw [decide_eq_true heq]
      k_steps)
end Mine
end

theorem PySem.Challenge.cw_km0001_01_holds : PySem.Challenge.rw_km0001_01.Holds := by
  exact Mine.tt
