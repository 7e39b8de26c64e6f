import PyProof.Rows.All
import Wide.All
import OpenK.AllK
import Wide.FinOn
import PyProof.EqKinds
import Lean
import PySem.Challenge.RW_vy0039_01
set_option Elab.async false
section
open PySem PySem.W PyProof.Rows
namespace Mine
set_option maxRecDepth 100000
open Builtin
section
variable {prog : Program} {w : World} {A : Around} {E : Value → Shared → Prop} {s : Shared}
/-- octets read as a text -/
def txt (bs : List UInt8) : Str := ⟨(bs.map UInt8.toNat).toArray⟩

theorem forIn_const_range {β : Type} (n : Nat) (b : β) (f : Nat → β → Sem (ForInStep β)) :
    (forIn (m := Sem) ([0 : n] : Std.Legacy.Range) b f) = forIn (List.range n) b f := by
  rw [Std.Legacy.Range.forIn_eq_forIn_range', List.range_eq_range']
  simp [Std.Legacy.Range.size]

theorem dec_road {Q : (Array Nat × Nat) → Shared → Prop} {id : String} (bs : List UInt8) (hb : ∀ b ∈ bs, b.toNat < 128) (hz : bs.length ≤ sizeLine)
    (h : Q ((bs.map UInt8.toNat).toArray, bs.length) s) :
    wpAny (model prog w) A (_codecs.runDecoder id _codecs.asciiDecoder none true bs.toArray 0 []) Q E s := by
  unfold _codecs.runDecoder
  dsimp only
  rw [forIn_const_range]
  refine wpAny_bind ?_
  refine wpAny_forIn_list _ (fun rest r s' => s' = s ∧ r.1 = bs.length - rest.length ∧ rest.length ≤ bs.length ∧ r.2.1 = ((bs.take (bs.length - rest.length)).map UInt8.toNat).toArray) _ ?_ ?_ _ _ ?_
  · rintro x rest ⟨p, out, st⟩ s' ⟨rfl, rfl, hlen, rfl⟩
    simp only [List.length_cons] at hlen ⊢
    have hp : bs.length - (rest.length + 1) < bs.length := by omega
    have e1 : (bs.length - (rest.length + 1)) + 1 = bs.length - rest.length := by omega
    rw [if_neg (by simp only [List.size_toArray, List.length_map, List.length_take]; omega)]
    rw [if_neg (by simp only [List.size_toArray, ge_iff_le, Nat.not_le]; exact hp)]
    have hg : bs.toArray.getD (bs.length - (rest.length + 1)) 0 = bs[bs.length - (rest.length + 1)] := by
      simp [Array.getD, hp]
    have hc : (bs[bs.length - (rest.length + 1)]).toNat < 128 := hb _ (List.getElem_mem _)
    have hf : _codecs.asciiDecoder.find true bs.toArray (bs.length - (rest.length + 1)) = .text [(bs[bs.length - (rest.length + 1)]).toNat] (bs.length - rest.length) := by
      show (let c := (bs.toArray.getD (bs.length - (rest.length + 1)) 0).toNat; if c < 128 then _codecs.Found.char c (bs.length - (rest.length + 1) + 1) else _) = _
      simp only [hg, hc, if_true, e1]
      rfl
    refine wpAny_bind (wpAny_pure ?_)
    rw [hf]
    refine wpAny_pure ⟨rfl, rfl, by omega, ?_⟩
    simp only [List.append_toArray]
    rw [← e1, List.map_take, List.map_take, List.take_add_one, List.getElem?_map, List.getElem?_eq_getElem hp]
    rfl
  · rintro ⟨p, out, st⟩ s' ⟨rfl, rfl, _, rfl⟩
    refine wpAny_pure ?_
    simpa using h
  · simp
theorem road_ascii {id : String} {b : Array UInt8} : _codecs.decodeRoad id b (PySem.Str.ofString "ascii") none [] = (_codecs.runDecoder id _codecs.asciiDecoder none true b 0 [] >>= fun r => mkStr ⟨r.1⟩) := by kernel_rfl
theorem meets_text_ascii {bs : List UInt8} {t t1 t2 : Tok} {d : PySem.Str} (hb : ∀ b ∈ bs, b.toNat < 128) (hz : bs.length ≤ sizeLine) :
    Meets («_codecs.decode.text» ⟨[.bytes bs.toArray t, .str (PySem.Str.ofString "ascii") t1, .none, .str d t2], []⟩) (fun _ R s => R (.ok (.ret (.str (txt bs) s.toks))) { s with toks := s.toks + 1 }) := by
  refine .of_wp fun prog w A R s h => ?_
  show wpAny _ _ (Bytes.bytesLike _ (.bytes bs.toArray t) >>= fun r => _) _ _ s
  refine wpAny_bind (wpAny_of_eq KBd.like_eq ?_)
  refine wpAny_bind (wpAny_of_eq KBd.held_eq ?_)
  show wpAny _ _ (_codecs.decodeRoad _ bs.toArray (PySem.Str.ofString "ascii") none [] >>= fun v => _) _ _ s
  rw [road_ascii]
  refine wpAny_bind (wpAny_bind (dec_road bs hb hz ?_))
  exact wpAny_mkStr (wpAny_pure ⟨_, rfl, h⟩) (by simpa [PySem.Str.length] using hz)
theorem entry_ascii {c : UInt8} {cs : List UInt8} {t te : Tok} : «bytes.decode» ⟨[.bytes (c :: cs).toArray t, .str (PySem.Str.ofString "ascii") te], []⟩ = (mkStr (PySem.Str.ofString "utf-8") >>= fun _ => mkStr (PySem.Str.ofString "ascii") >>= fun e => mkStr (PySem.Str.ofString "bytes.decode") >>= fun d =>
    call (.builtin "_codecs.decode.text") [.bytes (c :: cs).toArray t, e, .none, d] >>= fun v => ret v) := by kernel_rfl
theorem args_decode_2 (a b : Value) : argsOk "bytes.decode" ⟨[a, b], []⟩ := by unfold argsOk; kernel_rfl
theorem meets_decode_ascii {c : UInt8} {cs : List UInt8} {t te : Tok} (hb : ∀ b ∈ c :: cs, b.toNat < 128) (hz : (c :: cs).length ≤ sizeLine) :
    Meets («bytes.decode» ⟨[.bytes (c :: cs).toArray t, .str (PySem.Str.ofString "ascii") te], []⟩) (fun _ R s => ∀ t' k, R (.ok (.ret (.str (txt (c :: cs)) t'))) { s with toks := k }) := by
  refine .of_wp fun prog w A R s h => ?_
  rw [entry_ascii]
  refine wpAny_bind (wpAny_mkStr ?_ (by decide))
  refine wpAny_bind (wpAny_mkStr ?_ (by decide))
  refine wpAny_bind (wpAny_mkStr ?_ (by decide))
  exact wpAny_bind (call_function_meets KBd.kind_text KBd.plain_text KBd.entry_text (KBd.args_text _ _ _ _) (meets_text_ascii hb hz) (wpAny_pure ⟨_, rfl, h _ _⟩))
theorem decode_ascii {c : UInt8} {cs : List UInt8} {t te : Tok} {Q : Value → Shared → Prop} (hb : ∀ b ∈ c :: cs, b.toNat < 128) (hz : (c :: cs).length ≤ sizeLine) (h : ∀ t' k, Q (.str (txt (c :: cs)) t') { s with toks := k }) :
    wpAny (model prog w) A (call (.builtin "bytes.decode") [.bytes (c :: cs).toArray t, .str (PySem.Str.ofString "ascii") te]) Q E s :=
  call_meets FB.slot_bytes_decode (typeIs_bytes _ _ _) FB.entry_bytes_decode (args_decode_2 _ _) (meets_decode_ascii hb hz) h
theorem enc_narrow {Q : Array UInt8 → Shared → Prop} {id : String} {self : Value} (c : UInt8) (cs : List UInt8) (hb : ∀ b ∈ c :: cs, b.toNat < 128) (hz : (c :: cs).length ≤ sizeLine)
    (h : Q (c :: cs).toArray s) :
    wpAny (model prog w) A (_codecs.encodeNarrow id _codecs.asciiCodec none self (txt (c :: cs))) Q E s := by
  have hbad : ∀ y, _codecs.asciiCodec.bad y = decide (y ≥ 128) := fun _ => rfl
  have hn : ((txt (c :: cs)).cps.extract 0 (txt (c :: cs)).cps.size).findIdx? _codecs.asciiCodec.bad = none := by
    rw [Array.findIdx?_eq_none_iff]
    intro x hx
    have : x ∈ (txt (c :: cs)).cps := by
      have := Array.mem_extract_iff_getElem.mp hx
      obtain ⟨i, hi, rfl⟩ := this
      exact Array.getElem_mem _
    simp only [txt, List.mem_toArray, List.mem_map] at this
    obtain ⟨b, hb', rfl⟩ := this
    rw [hbad]
    have := hb b hb'
    simp; omega
  have hfold : ∀ (l : List UInt8) (acc : Array UInt8), (l.map UInt8.toNat).foldl (fun acc y => acc ++ (_codecs.asciiCodec.bytesOf y).toArray) acc = acc ++ l.toArray := by
    intro l
    induction l with
    | nil => intro acc; simp
    | cons x l ih =>
      intro acc
      rw [List.map_cons, List.foldl_cons, ih]
      show acc ++ [x.toNat.toUInt8].toArray ++ l.toArray = acc ++ (x :: l).toArray
      rw [show x.toNat.toUInt8 = x from by simp]
      simp
  have hsz : (txt (c :: cs)).cps.size = cs.length + 1 := by simp [txt]
  have hlen : (txt (c :: cs)).length = cs.length + 1 := hsz
  unfold _codecs.encodeNarrow
  dsimp only
  rw [forIn_const_range, hlen]
  refine wpAny_bind ?_
  refine wpAny_forIn_list _ (fun rest r s' => s' = s ∧ ((rest = List.range (cs.length + 1) ∧ r.1 = 0 ∧ r.2.1 = #[]) ∨ (r.1 = cs.length + 1 ∧ r.2.1 = (c :: cs).toArray))) _ ?_ ?_ _ _ ?_
  · intro x rest r s' hI
    obtain ⟨rfl, hr⟩ := hI
    obtain ⟨i, out, st⟩ := r
    dsimp only at hr
    rcases hr with ⟨hr, e1, e2⟩ | ⟨e1, e2⟩ <;> subst e1 <;> subst e2
    · dsimp only
      rw [if_neg (by simp)]
      have h0 : (txt (c :: cs)).cps[0]? = some c.toNat := by simp [txt]
      rw [h0]
      dsimp only
      have hc : c.toNat < 128 := hb c (.head _)
      have hc' : _codecs.asciiCodec.bad c.toNat = false := by rw [hbad]; simp; omega
      rw [hc']
      simp only [Bool.not_false, if_true]
      rw [hn]
      refine wpAny_pure ⟨rfl, .inr ⟨?_, ?_⟩⟩
      · simp [hsz]
      · simp only [Option.getD_none]
        have e : ((txt (c :: cs)).cps.extract 0 (txt (c :: cs)).cps.size).extract 0 ((txt (c :: cs)).cps.extract 0 (txt (c :: cs)).cps.size).size = ((c :: cs).map UInt8.toNat).toArray := by simp [txt, List.take_of_length_le]
        rw [e, List.size_toArray, List.foldl_toArray']
        · rw [hfold]; simp
        · rfl
    · dsimp only
      rw [if_neg (by simpa using hz)]
      have h0 : (txt (c :: cs)).cps[cs.length + 1]? = none := by simp [txt]
      rw [h0]
      exact wpAny_pure (wpAny_pure h)
  · intro r s' hI
    obtain ⟨rfl, hr⟩ := hI
    obtain ⟨i, out, st⟩ := r
    dsimp only at hr
    rcases hr with ⟨hr, e1, e2⟩ | ⟨e1, e2⟩
    · simp at hr
    · subst e1
      subst e2
      exact wpAny_pure h
  · exact ⟨rfl, .inl ⟨rfl, rfl, rfl⟩⟩
theorem entry_encode {x : PySem.Str} {t te : Tok} : «str.encode» ⟨[.str x t, .str (PySem.Str.ofString "ascii") te], []⟩ =
    (_codecs.encodeNarrow "str.encode" _codecs.asciiCodec none (.str x t) x >>= fun b => mkBytes b) >>= fun v => ret v := by kernel_rfl
theorem meets_encode_ascii {c : UInt8} {cs : List UInt8} {t te : Tok} (hb : ∀ b ∈ c :: cs, b.toNat < 128) (hz : (c :: cs).length ≤ sizeLine) :
    Meets («str.encode» ⟨[.str (txt (c :: cs)) t, .str (PySem.Str.ofString "ascii") te], []⟩) (fun _ R s => ∀ t' k, R (.ok (.ret (.bytes (c :: cs).toArray t'))) { s with toks := k }) := by
  refine .of_wp fun prog w A R s h => ?_
  rw [entry_encode]
  refine wpAny_bind (wpAny_bind (enc_narrow c cs hb hz ?_))
  exact wpAny_mkBytes (wpAny_pure ⟨_, rfl, h _ _⟩) (by simpa using hz)
theorem encode_ascii {c : UInt8} {cs : List UInt8} {t te : Tok} {Q : Value → Shared → Prop} (hb : ∀ b ∈ c :: cs, b.toNat < 128) (hz : (c :: cs).length ≤ sizeLine) (h : ∀ t' k, Q (.bytes (c :: cs).toArray t') { s with toks := k }) :
    wpAny (model prog w) A (call (.builtin "str.encode") [.str (txt (c :: cs)) t, .str (PySem.Str.ofString "ascii") te]) Q E s :=
  call_meets PySem.F.slot_str_encode (typeIs_str _ _ _) PySem.F.entry_str_encode (PySem.F.args_str_encode_2 _ _) (meets_encode_ascii hb hz) h
theorem method_encode {M : Model} {x : PySem.Str} {t : Tok} {pl : Sem Bool} {Q : Value × List Value → Shared → Prop} (h : Q (.builtin "str.encode", [.str x t]) s) : wpAny M A (getMethod (.str x t) "encode" pl) Q E s :=
  getMethod_builtin (typeIs_str _ _ _) PySem.F.plainAttrs_str PySem.F.slot_str_encode PySem.F.type_str_encode (fun _ e => nomatch e) h
end
end Mine
end
section
open PySem PySem.W PyProof.Rows
namespace Mine
set_option maxRecDepth 100000
open Builtin
section
variable {prog : Program} {w : World} {A : Around} {E : Value → Shared → Prop} {s₁ : Shared} {h₀ : Heap} {L : Addr} {m : Str → Option Value} {news : List (Addr × Obj)}
theorem areOf_bytes {b : Array UInt8} {vs : List Value} (hlen : vs.length = b.size) (hP : ∀ (j : Nat) (v : Value), vs[j]? = some v → ∃ c u, b[j]? = some c ∧ v = .int (c.toNat : Int) u) :
    AreOf ItemKind.int vs (KBw.bInts b) := by
  obtain ⟨l⟩ := b
  rw [KBw.ints_list]
  simp only [List.size_toArray] at hlen
  induction l generalizing vs with
  | nil => cases vs with
    | nil => exact .nil
    | cons _ _ => simp at hlen
  | cons c l ih =>
    cases vs with
    | nil => simp at hlen
    | cons v vs =>
      obtain ⟨c', u, hc, rfl⟩ := hP 0 v rfl
      simp at hc
      subst hc
      refine .cons ⟨u, rfl⟩ (ih (fun j v hv => ?_) (by simpa using hlen))
      obtain ⟨c', u, hc, e⟩ := hP (j + 1) v (by simpa using hv)
      exact ⟨c', u, by simpa using hc, e⟩
theorem srcC_oct {env : Env} {elt : Expr} {x : Str} {scope : Scope} {Q : Value → Shared → Prop} {b : Array UInt8} {t : Tok} (d : Int → Int)
    (hh : A.handled = none) (F : Fr h₀ L s₁.heap m) (N : News h₀ L s₁.heap news)
    (g2 : ∀ C (a : Int) u s₂ m₂ E', 0 ≤ a → s₂.heap.Ns (compEnv scope C env).locals m₂ → m₂ x = some (.int a u) → s₁.toks ≤ s₂.toks → wpAny (model prog w) A (eval elt (compEnv scope C env)) (fun r s₃ => Carried r (PyData.int (d a)) ∧ Keeps s₂ s₃) E' s₂)
    (g3 : ∀ D (ys : List Value) n h' tk, Fr h₀ L h' m → News h₀ L h' ((D, listOf ys.toArray n) :: news) → CarriedAll ys (((KBw.bInts b).map d).map PyData.int) → Q (.ref D) { s₁ with heap := h', toks := tk }) (hsz : b.size ≤ sizeLine) :
    wpAny (model prog w) A (pyIter (.bytes b t)) (CompPost prog w A env scope x [] elt Q) E s₁ := by
  unfold CompPost
  refine KBw.pyIter_bytes ?_
  have up : ∀ (h' : Heap), (∀ b' o', b' ∉ [s₁.heap.objs.size] → (s₁.heap.push { cls := .type "bytes_iterator", data := .fields #[.bytes b t, .int 0 0] }).get? b' = some o' → h'.get? b' = some o') → ∀ b' o', s₁.heap.get? b' = some o' → h'.get? b' = some o' :=
    fun h' hk b o' e => hk b o' (not_iter_of_old e) (Heap.get?_push_of_some _ e)
  have hall : ∀ l : List Int, l.filter (fun _ => true) = l := fun l => List.filter_eq_self.mpr fun _ _ => rfl
  refine ⟨ItemKind.int.lift (fun _ => true), fun v r => ∃ a, ItemKind.int.is a v ∧ Carried r (PyData.int (d a)), s₁.heap.objs.size, [s₁.heap.objs.size], [s₁.heap.objs.size], b.size, _, _, rfl, KBw.walks hh _ b t, hsz, ⟨_, Heap.get?_push_size _ rfl, rfl, rfl⟩, ?_, ⟨?_, ?_⟩, ?_⟩
  · intro b' hb
    show b' < (s₁.heap.push _).objs.size
    rw [Heap.size_push, List.mem_singleton.mp hb]
    exact Nat.lt_succ_self _
  · intro C i v s₃ m₃ E' hP hn hm _ htk
    obtain ⟨c, u, _, rfl⟩ := hP
    have ha : ItemKind.int.is (c.toNat : Int) (.int (c.toNat : Int) u) := ⟨u, rfl⟩
    rw [ItemKind.lift_is ha]
    exact wpAny_pure ⟨rfl, s₃.heap, s₃.toks, rfl, fun _ _ e => e⟩
  · intro C i v s₃ m₃ E' hP hp hn hm _ htk
    obtain ⟨c, u, _, rfl⟩ := hP
    have ha : ItemKind.int.is (c.toNat : Int) (.int (c.toNat : Int) u) := ⟨u, rfl⟩
    exact wpAny_mono (g2 C _ u s₃ m₃ E' (by omega) hn hm htk) (fun r s₄ h₄ => ⟨⟨_, ha, h₄.1⟩, h₄.2⟩) fun _ _ e => e
  · intro D h' tk ys vs hnew hlD hplD hlen hP hF hk
    obtain ⟨n, hD⟩ := hplD
    have F' := F.keeps (up h' hk)
    refine g3 D ys.toList n h' tk F' (fun p hp => ?_) ?_
    · rcases List.mem_cons.mp hp with rfl | hp
      · refine ⟨by simpa using hD, ?_, ?_⟩
        · rintro rfl
          obtain ⟨oL, _, _, hL, _⟩ := F.ns
          rw [Heap.get?_push_of_some _ hL] at hnew
          cases hnew
        · cases e : h₀.get? D with
          | none => rfl
          | some o' => rw [Heap.get?_push_of_some _ (F.keep _ _ e)] at hnew; cases hnew
      · exact ⟨up h' hk _ _ (N p hp).1, (N p hp).2⟩
    · have z := (areOf_bytes hlen hP).paired (fun _ => true) (fun a => PyData.int (d a)) _ hF
      rw [hall] at z
      rw [List.map_map]
      exact z
theorem intsAre_of_carried : ∀ {ys : List Value} {ks : List Int}, CarriedAll ys (ks.map PyData.int) → IntsAre ys ks
  | _, [], h => by cases h; exact .nil
  | _, k :: ks, h => by
    cases h with
    | cons h r =>
      cases h with
      | int _ t => exact .cons _ t (intsAre_of_carried r)
def plainOf (b : List UInt8) : List UInt8 := b.map fun c => c % 128
theorem bytes_oct {D : Addr} {ys : List Value} {n : Nat} {b : List UInt8} {Q : Value → Shared → Prop} (F : Fr h₀ L s₁.heap m) (N : News h₀ L s₁.heap news) (hm : (D, listOf ys.toArray n) ∈ news)
    (C : CarriedAll ys (((KBw.bInts b.toArray).map fun a => a.fmod 128).map PyData.int)) (hz : b.length ≤ sizeLine) (hh : A.handled = none)
    (h : ∀ h' t k, Fr h₀ L h' m → News h₀ L h' news → Q (.bytes (plainOf b).toArray t) { s₁ with heap := h', toks := k }) : wpAny (model prog w) A (call (.type "bytes") [.ref D]) Q E s₁ := by
  have hi := intsAre_of_carried C
  have hlen : ys.length = b.length := by rw [hi.length]; simp [KBw.ints_length]
  refine bytes_K F N ⟨_, (N _ hm).1, rfl, n, rfl⟩ hi ?_ (by omega) hh fun h' t k F' N' _ => ?_
  · intro k hk
    obtain ⟨a, _, rfl⟩ := List.mem_map.mp hk
    have h1 := Int.fmod_nonneg_of_pos a (b := 128) (by decide)
    have h2 := Int.fmod_lt_of_pos a (b := 128) (by decide)
    omega
  · have e : (((KBw.bInts b.toArray).map fun a => a.fmod 128).map fun n => n.toNat.toUInt8) = plainOf b := by
      rw [KBw.ints_list, List.map_map, List.map_map]
      refine List.map_congr_left fun c _ => ?_
      show ((c.toNat : Int).fmod 128).toNat.toUInt8 = c % 128
      rw [Int.fmod_eq_emod_of_nonneg _ (by decide)]
      have : ((c.toNat : Int) % 128).toNat = c.toNat % 128 := by omega
      rw [this]
      apply UInt8.toNat_inj.mp
      simp
      omega
    rw [e]
    exact h h' t k F' N'
end
end Mine
end
section
open PySem PySem.W PyProof.Rows
namespace Mine
set_option maxRecDepth 100000 in
set_option maxHeartbeats 8000000 in
open_top hd for PySem.Challenge.rw_vy0039_01


end Mine
end
section
open PySem PySem.W PyProof.Rows
namespace Mine
abbrev Led := List (Addr × Obj)
def Marks (_ : Params → Frag) (_ : OpenLaw) : Prop := True
theorem Marks.intro {K l} : Marks K l := trivial
/-- the contract of a call of the def at f -/
abbrev Claim (prog : Program) (w : World) (K : Frag) (p : Program) (loose : List Str) (mean : ExcName → Option Value) (mg mb : Str → Option Value) (f : Addr) (vs : List Value) (news : Led) (R : Value → Led → Prop) : Prop :=
  ∀ (dp un : Nat) (gd : Option (List Code)) (cn : Str) (cs : Scope) (a : Addr) (ccd : Value) (cl : List (Str × Addr)) (outer : List Env) (A₀ : Around) (base h₀ : Heap) (L : Addr) (m : Str → Option Value) (s : Shared) (Q E : Value → Shared → Prop),
    Below A₀ base outer h₀ → Fr h₀ L s.heap m → K.In h₀ → News h₀ L s.heap news → Top p loose mean mg mb h₀ → cs.kind = .function →
    dp + 30 < recursionLimit → un + 300 < cLine →
    (∀ v tl h' tk', Fr h₀ L h' m → News h₀ L h' (tl ++ news) → (∀ q ∈ news, ∀ p ∈ tl, p.1 ≠ q.1) → R v tl → Q v { s with heap := h', toks := tk' }) →
    wpAny (model prog w) (ktrTop dp un gd cn cs L a ccd cl outer) (call (.ref f) vs) Q E s
end Mine
end
section
open PySem PySem.W PyProof.Rows
namespace Mine
set_option maxRecDepth 100000
/-- data of the law, as trees -/
inductive Dt where
  | none
  | bool (b : Bool)
  | int (i : Int)
  | str (x : Str)
  | bytes (b : List UInt8)
  | tup (ds : List Dt)
  | lst (ds : List Dt)
  | bad (ds : List Dt)
mutual
inductive DIn (news : Led) : Value → Dt → Prop
  | none : DIn news Value.none Dt.none
  | bool (b : Bool) : DIn news (Value.bool b) (Dt.bool b)
  | int (i : Int) (t : Tok) : DIn news (Value.int i t) (Dt.int i)
  | str (x : Str) (t : Tok) : DIn news (Value.str x t) (Dt.str x)
  | bytes (b : List UInt8) (t : Tok) : DIn news (Value.bytes b.toArray t) (Dt.bytes b)
  | tup {a : Addr} {vs : List Value} {n : Nat} {ds : List Dt} : (a, ({ cls := .type "tuple", data := .seq vs.toArray n } : Obj)) ∈ news → DAll news vs ds → DIn news (Value.ref a) (Dt.tup ds)
  | lst {a : Addr} {vs : List Value} {n : Nat} {ds : List Dt} : (a, listOf vs.toArray n) ∈ news → DAll news vs ds → DIn news (Value.ref a) (Dt.lst ds)
  | bad {a d t : Addr} {hh : Int} {tk : Tok} {vs : List Value} {n k : Nat} {ds : List Dt} : (a, instObj 31 d) ∈ news → (d, dictOf [⟨hh, .str "args" tk, .ref t⟩] k) ∈ news → (t, ({ cls := .type "tuple", data := .seq vs.toArray n } : Obj)) ∈ news → DAll news vs ds → DIn news (Value.ref a) (Dt.bad ds)
inductive DAll (news : Led) : List Value → List Dt → Prop
  | nil : DAll news [] []
  | cons {v : Value} {vs : List Value} {d : Dt} {ds : List Dt} : DIn news v d → DAll news vs ds → DAll news (v :: vs) (d :: ds)
end
mutual
theorem DIn.mono {news news' : Led} (hs : ∀ p ∈ news, p ∈ news') : ∀ {v : Value} {d : Dt}, DIn news v d → DIn news' v d
  | _, _, .none => .none
  | _, _, .bool b => .bool b
  | _, _, .int i t => .int i t
  | _, _, .str x t => .str x t
  | _, _, .bytes b t => .bytes b t
  | _, _, .tup h r => .tup (hs _ h) (DAll.mono hs r)
  | _, _, .lst h r => .lst (hs _ h) (DAll.mono hs r)
  | _, _, .bad h1 h2 h3 r => .bad (hs _ h1) (hs _ h2) (hs _ h3) (DAll.mono hs r)
theorem DAll.mono {news news' : Led} (hs : ∀ p ∈ news, p ∈ news') : ∀ {vs : List Value} {ds : List Dt}, DAll news vs ds → DAll news' vs ds
  | _, _, .nil => .nil
  | _, _, .cons h r => .cons (DIn.mono hs h) (DAll.mono hs r)
end
/-! the thirteen ways a reference is written -/
def refD (k : Nat) (o : List UInt8) (b : Str) : Dt := match k with
  | 0 => .bytes o
  | 1 => .str (txt (plainOf o))
  | 2 => .tup [.bytes o, .str "klass"]
  | 3 => .lst [.str "w", .tup [.bytes o]]
  | 4 => .lst [.str "w", .tup [.bytes o, .str b]]
  | 5 => .lst [.bytes o]
  | 6 => .lst [.str "n", .tup [.str b, .bytes o]]
  | 7 => .lst [.str "m", .tup [.str b, .bytes o, .str "klass"]]
  | 8 => .tup [.str (txt (plainOf o)), .none]
  | 9 => .lst [.str "w", .tup [.str (txt (plainOf o))]]
  | 10 => .lst [.str "n", .tup [.str b, .str (txt (plainOf o))]]
  | 11 => .lst [.str "m", .tup [.str b, .str (txt (plainOf o)), .none]]
  | _ => .tup [.bytes o, .bad [.str "shop", .str b]]
def oidOf (k : Nat) (o : List UInt8) : List UInt8 := match k with
  | 0 | 2 | 3 | 4 | 5 | 6 | 7 => o
  | 1 | 8 | 9 | 10 | 11 => plainOf o
  | _ => o
def dbOf (k : Nat) (b : Str) : Dt := match k with
  | 4 | 6 | 7 | 10 | 11 => .str b
  | _ => .none
def weakOf (k : Nat) : Bool := match k with
  | 3 | 4 | 5 | 9 => true
  | _ => false
def klsOf (k : Nat) (b : Str) : Dt := match k with
  | 2 | 7 => .str "klass"
  | 0 | 1 | 3 | 4 | 5 | 6 | 8 | 9 | 10 | 11 => .none
  | _ => .tup [.str "shop", .str b]
def dataOf (k : Nat) (o : List UInt8) (b : Str) : Dt := match k with
  | 0 | 1 | 2 | 3 | 4 | 5 | 6 | 7 | 8 | 9 | 10 | 11 => refD k o b
  | _ => .tup [.bytes o, .tup [.str "shop", .str b]]
def dueD (k : Nat) (o : List UInt8) (b : Str) : Dt := .tup [.bytes (oidOf k o), dbOf k b, .bool (weakOf k), klsOf k b, dataOf k o b]
def pick2 (x y : Str) (k : Int) : Str := if k = 0 then x else y
def baseOf (n : Int) : Str := pick2 "one" "two" (((n.fdiv 13).fdiv 4).fmod 2)
def formOf (n : Int) : Nat := (n.fmod 13).toNat
theorem formOf_lt (n : Int) : formOf n < 13 := by
  have h1 := Int.fmod_nonneg_of_pos n (b := 13) (by decide)
  have h2 := Int.fmod_lt_of_pos n (b := 13) (by decide)
  unfold formOf; omega
theorem fmod13 (n : Int) : n.fmod 13 = 0 ∨ n.fmod 13 = 1 ∨ n.fmod 13 = 2 ∨ n.fmod 13 = 3 ∨ n.fmod 13 = 4 ∨ n.fmod 13 = 5 ∨ n.fmod 13 = 6 ∨ n.fmod 13 = 7 ∨ n.fmod 13 = 8 ∨ n.fmod 13 = 9 ∨ n.fmod 13 = 10 ∨ n.fmod 13 = 11 ∨ n.fmod 13 = 12 := by
  have h1 := Int.fmod_nonneg_of_pos n (b := 13) (by decide)
  have h2 := Int.fmod_lt_of_pos n (b := 13) (by decide)
  omega
theorem formOf_of {n k : Int} (e : n.fmod 13 = k) : formOf n = k.toNat := by rw [← e]; rfl
/-- what _law_written(n, o) hands back -/
def Written (n : Int) (o : List UInt8) (v : Value) (tl : Led) : Prop :=
  ∃ tup k r d, v = .ref tup ∧ (tup, ({ cls := .type "tuple", data := .seq #[r, d] k } : Obj)) ∈ tl ∧ DIn tl r (refD (formOf n) o (baseOf n)) ∧ DIn tl d (dueD (formOf n) o (baseOf n))

theorem written_gen {n : Int} {o : List UInt8} {v : Value} (l : Led) (key : ∀ tl : Led, (∀ p ∈ l, p ∈ tl) → Written n o v tl) : Written n o v l := key l fun _ h => h
/-- x is a PersistentReference of the ledger: its data, id, database, weakness -/
def IsPR (news : Led) (x : Addr) (dv : Value) (o : List UInt8) (db : Dt) (wk : Bool) : Prop :=
  ∃ (d : Addr) (es : List DictEntry) (n : Nat) (t : Tok), (x, instObj 109 d) ∈ news ∧ (d, dictOf es n) ∈ news ∧ getL "data" es = some (some dv) ∧ getL "oid" es = some (some (.bytes o.toArray t)) ∧
    (match db with | .str b => ∃ u, getL "database_name" es = some (some (.str b u)) | _ => getL "database_name" es = some none) ∧
    getL "weak" es = some (if wk then some (.bool true) else none) ∧ getL "_cmp" es = some none
theorem IsPR.mono {news news' : Led} (hs : ∀ p ∈ news, p ∈ news') {x : Addr} {dv : Value} {o : List UInt8} {db : Dt} {wk : Bool} (h : IsPR news x dv o db wk) : IsPR news' x dv o db wk :=
  let ⟨d, es, n, t, h1, h2, r⟩ := h; ⟨d, es, n, t, hs _ h1, hs _ h2, r⟩
theorem forall_in_cons {α : Type} {P : α → Prop} {a : α} {l : List α} (h : P a) (r : ∀ x ∈ l, P x) : ∀ x ∈ a :: l, P x := List.forall_mem_cons.mpr ⟨h, r⟩
theorem forall_in_nil {α : Type} {P : α → Prop} : ∀ x ∈ ([] : List α), P x := fun _ h => nomatch h
theorem fin_cls {h₀ g h' H1 : Heap} {L L' x1 d1 : Addr} {o1 o2 : Obj} {m' : Str → Option Value} {tl news sub fin : Led}
    (N1 : News h₀ L H1 ((x1, o1) :: (d1, o2) :: news)) (l1 : ∀ p ∈ news, p.1 < d1) (l2 : @LT.lt Nat _ d1 x1) (hs : ∀ p ∈ sub, p ∈ news)
    (GS : GSub H1 g (((x1, o1) :: (d1, o2) :: sub).map fun x => x.1)) (F' : Fr g L' h' m') (N' : News g L' h' fin) (kN : News h₀ L h' fin)
    (hfin : ∀ p ∈ sub, p ∈ fin) (htl : ∀ p ∈ tl, p ∈ fin) (hne : ∀ p ∈ tl, ∀ q ∈ sub, p.1 ≠ q.1) :
    News h₀ L h' (tl ++ news) ∧ ∀ q ∈ news, ∀ p ∈ tl, p.1 ≠ q.1 := by
  have way : ∀ q ∈ news, q ∈ sub ∨ g.get? q.1 = some q.2 := fun q hq => by
    by_cases hm : q.1 ∈ ((x1, o1) :: (d1, o2) :: sub).map fun x => x.1
    · left
      have hlt : @LT.lt Nat _ q.1 d1 := l1 q hq
      rcases List.mem_cons.mp hm with e | hm
      · have e' : q.1 = x1 := e
        rw [e'] at hlt
        exact absurd hlt (by omega)
      · rcases List.mem_cons.mp hm with e | hm
        · have e' : q.1 = d1 := e
          rw [e'] at hlt
          exact absurd hlt (Nat.lt_irrefl _)
        · obtain ⟨p0, hp0, e⟩ := List.mem_map.mp hm
          have a1 := (N1 p0 (.tail _ (.tail _ (hs p0 hp0)))).1
          have a2 := (N1 q (.tail _ (.tail _ hq))).1
          have e' : p0.1 = q.1 := e
          rw [e', a2] at a1
          have : p0 = q := Prod.ext e' (Option.some.inj a1).symm
          exact this ▸ hp0
    · exact .inr (GS _ _ (N1 q (.tail _ (.tail _ hq))).1 hm)
  refine ⟨fun p hp => ?_, fun q hq p hp e => ?_⟩
  · rcases List.mem_append.mp hp with hp | hp
    · exact kN p (htl p hp)
    · rcases way p hp with h | h
      · exact kN p (hfin p h)
      · have := N1 p (.tail _ (.tail _ hp))
        exact ⟨F'.keep _ _ h, this.2⟩
  · rcases way q hq with h | h
    · exact hne p hp q h e
    · have h1 := (N' p (htl p hp)).2.2
      rw [e, h] at h1
      cases h1
theorem fin_claim {h₀ g h' H : Heap} {L L' : Addr} {m' : Str → Option Value} {tl news : Led} (N : News h₀ L H news) (GS : GSub H g (([] : Led).map fun x => x.1)) (F' : Fr g L' h' m') (N' : News g L' h' tl) (kN : News h₀ L h' tl) :
    News h₀ L h' (tl ++ news) ∧ ∀ q ∈ news, ∀ p ∈ tl, p.1 ≠ q.1 := by
  have hin : ∀ q ∈ news, g.get? q.1 = some q.2 := fun q hq => GS _ _ (N q hq).1 (by intro h; cases h)
  refine ⟨fun p hp => ?_, fun q hq p hp e => ?_⟩
  · rcases List.mem_append.mp hp with hp | hp
    · exact kN p hp
    · exact ⟨F'.keep _ _ (hin p hp), (N p hp).2⟩
  · have h1 := (N' p hp).2.2
    rw [e, hin q hq] at h1
    cases h1

section
variable {prog : Program} {w : World} {A : Around} {E : Value → Shared → Prop} {s : Shared} {h₀ : Heap} {L : Addr} {m : Str → Option Value} {news : Led}
def pickAt (vs : List Value) (k : Int) : Value := vs.getD k.toNat .none
/-- an item of a written pair of texts at an open place -/
theorem tail_two {value slice : Expr} {D : Addr} {x y : Str} {t u : Tok} {k : Int} {tk : Tok} {n : Nat} {Q : Value → Shared → Prop} (N : News h₀ L s.heap news) (hm : (D, ({ cls := .type "tuple", data := .seq #[.str x t, .str y u] n } : Obj)) ∈ news)
    (h0 : 0 ≤ k) (h1 : k < 2) (h : ∀ t', Q (.str (pick2 x y k) t') s)
    (hs : subscripted slice false (.ref D) (.int k tk) = operate [.ref D, .int k tk] (getItem (.ref D) (.int k tk)) := by with_unfolding_all rfl) :
    wpAny (model prog w) A (subscriptTail value slice (.ref D) (.int k tk)) Q E s := by
  have ht : IsTup s.heap D #[.str x t, .str y u] := ⟨_, (N _ hm).1, rfl, n, rfl⟩
  have hk : k = 0 ∨ k = 1 := by omega
  rcases hk with rfl | rfl
  · exact item_tupleT ht (by decide) (by decide) rfl rfl (h t) hs
  · exact item_tupleT ht (by decide) (by decide) rfl rfl (h u) hs
/-- an item of a list of the ledger at an open place within it -/
theorem tail_at {value slice : Expr} {D : Addr} {vs : List Value} {k : Int} {tk : Tok} {n : Nat} {Q : Value → Shared → Prop} (N : News h₀ L s.heap news) (hm : (D, listOf vs.toArray n) ∈ news)
    (h0 : 0 ≤ k) (h1 : k < vs.length) (hz : vs.length ≤ 2 ^ 24) (h : Q (pickAt vs k) s)
    (hs : subscripted slice false (.ref D) (.int k tk) = operate [.ref D, .int k tk] (getItem (.ref D) (.int k tk)) := by with_unfolding_all rfl) :
    wpAny (model prog w) A (subscriptTail value slice (.ref D) (.int k tk)) Q E s := by
  have hl : s.heap.IsList D vs.toArray := ⟨_, (N _ hm).1, rfl, n, rfl⟩
  have hk : k.toNat < vs.length := by omega
  refine tail_any hl.typeIs slot_list_getitem.lookup (wpAny_getItem_list hl h0 (by omega) (x := pickAt vs k) (by simp [pickAt, List.getD, hk]) h) hs
theorem tail_13 {value slice : Expr} {D : Addr} {vs : List Value} {n0 : Int} {tk : Tok} {n : Nat} {Q : Value → Shared → Prop} (N : News h₀ L s.heap news) (hm : (D, listOf vs.toArray n) ∈ news)
    (hl : vs.length = 13) (h : Q (pickAt vs (n0.fmod 13)) s)
    (hs : subscripted slice false (.ref D) (.int (n0.fmod 13) tk) = operate [.ref D, .int (n0.fmod 13) tk] (getItem (.ref D) (.int (n0.fmod 13) tk))) :
    wpAny (model prog w) A (subscriptTail value slice (.ref D) (.int (n0.fmod 13) tk)) Q E s :=
  tail_at N hm (Int.fmod_nonneg_of_pos _ (by decide)) (by rw [hl]; exact Int.fmod_lt_of_pos _ (by decide)) (by rw [hl]; decide) h hs
end
end Mine
end
section
open PySem PySem.W PyProof.Rows
namespace Mine
theorem off_T3 : True := by w_top off; exact True.intro
set_option maxRecDepth 100000
set_option linter.unusedVariables false
set_option linter.unusedSimpArgs false
set_option maxHeartbeats 8000000
local macro_rules | `(tactic| k_room) => `(tactic| ktr_room)
local macro_rules | `(tactic| k_units) => `(tactic| ktr_units)
local macro_rules | `(tactic| units_room) => `(tactic| ktr_units)
/-- the eight octets of n, the highest first -/
def idOf (n : Int) : List UInt8 := [((((((((n.fdiv 256).fdiv 256).fdiv 256).fdiv 256).fdiv 256).fdiv 256).fdiv 256).fmod 256).toNat.toUInt8, (((((((n.fdiv 256).fdiv 256).fdiv 256).fdiv 256).fdiv 256).fdiv 256).fmod 256).toNat.toUInt8, ((((((n.fdiv 256).fdiv 256).fdiv 256).fdiv 256).fdiv 256).fmod 256).toNat.toUInt8, (((((n.fdiv 256).fdiv 256).fdiv 256).fdiv 256).fmod 256).toNat.toUInt8, ((((n.fdiv 256).fdiv 256).fdiv 256).fmod 256).toNat.toUInt8, (((n.fdiv 256).fdiv 256).fmod 256).toNat.toUInt8, ((n.fdiv 256).fmod 256).toNat.toUInt8, (n.fmod 256).toNat.toUInt8]
theorem id_claim (hmk : Marks hd.heap_39 PySem.Challenge.rw_vy0039_01) {prog : Program} {w : World} {p : Program} {loose : List Str} {mean : ExcName → Option Value} {mg mb : Str → Option Value} (n : Int) (t : Tok) (news : Led) :
  Claim prog w (hd.heap_39 w.params) p loose mean mg mb 141 [.int n t] news (fun v tl => tl = [] ∧ ∃ u, v = .bytes (idOf n).toArray u) := by
  unfold Claim
  revert hmk
  k_fill
  intro _ dp un gd cn cs a ccd cl outer A₀ base h₀ L m s Q E B F X N T hk hd hu hret
  refine wpAny_call ?_
  have N0 : News h₀ L s.heap [] := News.nil
  k_dflt (refine' code_defG ?k1 ?k2 ?k3 N0 ?k5 ?kA ?kF ?kK ?k6 ?k7 ?k8 ?k9 ?kB ?_ ?c2 ?c3 ?c4 ?c5; (case kA => exact rfl); (case kF => exact rfl); (case kK => assumption); (case k1 => k_asm); (case k2 => k_asm); (case k3 => k_asm); (case k5 => k_asm); (case k6 => k_is); (case k7 => k_is); (case k8 => ktr_room); (case k9 => exact BindsTo.of_eq rfl); (case c5 => decide); (case kB => exact locs rfl); (case c2 => exact rfl); (case c3 => exact rfl); (case c4 => exact rfl); k_whole; intro g' L' h' FG' F' N' B' X' T' GS; (try dsimp only); (try k_lift B'); (try k_fold))
  k_steps
  rename Fr h₀ L _ _ => kF1
  rename Fr g' L' _ _ => F1
  have hfin := fin_claim N GS F1 News.nil News.nil
  exact hret _ _ _ _ kF1 hfin.1 hfin.2 ⟨rfl, _, rfl⟩
end Mine
end
section
open PySem PySem.W PyProof.Rows
namespace Mine
theorem off_T4 : True := by w_top off; exact True.intro
set_option maxRecDepth 100000
set_option linter.unusedVariables false
set_option linter.unusedSimpArgs false
set_option maxHeartbeats 8000000
local macro_rules | `(tactic| k_room) => `(tactic| ktr_room)
local macro_rules | `(tactic| k_units) => `(tactic| ktr_units)
local macro_rules | `(tactic| units_room) => `(tactic| ktr_units)

local macro_rules | `(tactic| walk_at "pyIter bytes") => `(tactic| ((with_reducible show wpAny _ _ (pyIter (Value.bytes _ _)) (CompPost _ _ _ _ _ _ _ _ _) _ _); (rename Fr _ _ _ _ => lF'); (rename News _ _ _ _ => lN'); (with_unfolding_all refine srcC_oct (fun a => a.fmod 128) (by rfl) lF' lN' ?g2 ?g3 ?sz); (case sz => rw [sizeLine_eq]; exact Nat.le_of_ble_eq_true rfl); (case' g3 => (intro D' ys' n' h' tk' F' N' CC')); (case g2 => (intros; repeat' (first | exact PyProof.Rows.Carried.int _ _ | exact ⟨_, _, rfl, fun _ _ e => e⟩ | walk1)))))
local macro_rules | `(tactic| walk_at "call type:bytes") => `(tactic| (k_here; (rename CarriedAll _ _ => cC'); k_dflt (refine' bytes_oct ?F ?N ?m cC' ?z ?h ?_; (case F => k_asm); (case N => k_asm); (case m => k_mem); (case z => rw [sizeLine_eq]; exact Nat.le_of_ble_eq_true rfl); (case h => with_unfolding_all rfl); k_whole); intro h' t' k' F' N'; clear cC'; (try try dsimp only [plainOf, List.map])))
local macro_rules | `(tactic| ktn_open) => `(tactic| assumption)
local macro_rules | `(tactic| kqd_in) => `(tactic| first | exact DIn.none | exact DIn.bool _ | exact DIn.int _ _ | exact DIn.str _ _ | exact DIn.bytes _ _ | (refine DIn.tup (by assumption) ?_; kqd_all) | (refine DIn.lst (by assumption) ?_; kqd_all) | (refine DIn.bad (by assumption) (by assumption) (by assumption) ?_; kqd_all))
local macro_rules | `(tactic| kqd_all) => `(tactic| first | exact DAll.nil | (refine DAll.cons ?_ ?_; (focus (kqd_in; done)); kqd_all))
theorem ref_0 (o : List UInt8) (b : Str) : refD 0 o b = .bytes o := rfl
theorem due_0 (o : List UInt8) (b : Str) : dueD 0 o b = .tup [.bytes o, .none, .bool false, .none, .bytes o] := rfl
theorem ref_1 (o : List UInt8) (b : Str) : refD 1 o b = .str (txt (plainOf o)) := rfl
theorem due_1 (o : List UInt8) (b : Str) : dueD 1 o b = .tup [.bytes (plainOf o), .none, .bool false, .none, .str (txt (plainOf o))] := rfl
theorem ref_2 (o : List UInt8) (b : Str) : refD 2 o b = .tup [.bytes o, .str "klass"] := rfl
theorem due_2 (o : List UInt8) (b : Str) : dueD 2 o b = .tup [.bytes o, .none, .bool false, .str "klass", .tup [.bytes o, .str "klass"]] := rfl
theorem ref_3 (o : List UInt8) (b : Str) : refD 3 o b = .lst [.str "w", .tup [.bytes o]] := rfl
theorem due_3 (o : List UInt8) (b : Str) : dueD 3 o b = .tup [.bytes o, .none, .bool true, .none, .lst [.str "w", .tup [.bytes o]]] := rfl
theorem ref_4 (o : List UInt8) (b : Str) : refD 4 o b = .lst [.str "w", .tup [.bytes o, .str b]] := rfl
theorem due_4 (o : List UInt8) (b : Str) : dueD 4 o b = .tup [.bytes o, .str b, .bool true, .none, .lst [.str "w", .tup [.bytes o, .str b]]] := rfl
theorem ref_5 (o : List UInt8) (b : Str) : refD 5 o b = .lst [.bytes o] := rfl
theorem due_5 (o : List UInt8) (b : Str) : dueD 5 o b = .tup [.bytes o, .none, .bool true, .none, .lst [.bytes o]] := rfl
theorem ref_6 (o : List UInt8) (b : Str) : refD 6 o b = .lst [.str "n", .tup [.str b, .bytes o]] := rfl
theorem due_6 (o : List UInt8) (b : Str) : dueD 6 o b = .tup [.bytes o, .str b, .bool false, .none, .lst [.str "n", .tup [.str b, .bytes o]]] := rfl
theorem ref_7 (o : List UInt8) (b : Str) : refD 7 o b = .lst [.str "m", .tup [.str b, .bytes o, .str "klass"]] := rfl
theorem due_7 (o : List UInt8) (b : Str) : dueD 7 o b = .tup [.bytes o, .str b, .bool false, .str "klass", .lst [.str "m", .tup [.str b, .bytes o, .str "klass"]]] := rfl
theorem ref_8 (o : List UInt8) (b : Str) : refD 8 o b = .tup [.str (txt (plainOf o)), .none] := rfl
theorem due_8 (o : List UInt8) (b : Str) : dueD 8 o b = .tup [.bytes (plainOf o), .none, .bool false, .none, .tup [.str (txt (plainOf o)), .none]] := rfl
theorem ref_9 (o : List UInt8) (b : Str) : refD 9 o b = .lst [.str "w", .tup [.str (txt (plainOf o))]] := rfl
theorem due_9 (o : List UInt8) (b : Str) : dueD 9 o b = .tup [.bytes (plainOf o), .none, .bool true, .none, .lst [.str "w", .tup [.str (txt (plainOf o))]]] := rfl
theorem ref_10 (o : List UInt8) (b : Str) : refD 10 o b = .lst [.str "n", .tup [.str b, .str (txt (plainOf o))]] := rfl
theorem due_10 (o : List UInt8) (b : Str) : dueD 10 o b = .tup [.bytes (plainOf o), .str b, .bool false, .none, .lst [.str "n", .tup [.str b, .str (txt (plainOf o))]]] := rfl
theorem ref_11 (o : List UInt8) (b : Str) : refD 11 o b = .lst [.str "m", .tup [.str b, .str (txt (plainOf o)), .none]] := rfl
theorem due_11 (o : List UInt8) (b : Str) : dueD 11 o b = .tup [.bytes (plainOf o), .str b, .bool false, .none, .lst [.str "m", .tup [.str b, .str (txt (plainOf o)), .none]]] := rfl
theorem ref_12 (o : List UInt8) (b : Str) : refD 12 o b = .tup [.bytes o, .bad [.str "shop", .str b]] := rfl
theorem due_12 (o : List UInt8) (b : Str) : dueD 12 o b = .tup [.bytes o, .none, .bool false, .tup [.str "shop", .str b], .tup [.bytes o, .tup [.str "shop", .str b]]] := rfl
theorem pkat0 {a0 : Value} {l : List Value} : pickAt (a0 :: l) 0 = a0 := rfl
theorem pkat1 {a0 a1 : Value} {l : List Value} : pickAt (a0 :: a1 :: l) 1 = a1 := rfl
theorem pkat2 {a0 a1 a2 : Value} {l : List Value} : pickAt (a0 :: a1 :: a2 :: l) 2 = a2 := rfl
theorem pkat3 {a0 a1 a2 a3 : Value} {l : List Value} : pickAt (a0 :: a1 :: a2 :: a3 :: l) 3 = a3 := rfl
theorem pkat4 {a0 a1 a2 a3 a4 : Value} {l : List Value} : pickAt (a0 :: a1 :: a2 :: a3 :: a4 :: l) 4 = a4 := rfl
theorem pkat5 {a0 a1 a2 a3 a4 a5 : Value} {l : List Value} : pickAt (a0 :: a1 :: a2 :: a3 :: a4 :: a5 :: l) 5 = a5 := rfl
theorem pkat6 {a0 a1 a2 a3 a4 a5 a6 : Value} {l : List Value} : pickAt (a0 :: a1 :: a2 :: a3 :: a4 :: a5 :: a6 :: l) 6 = a6 := rfl
theorem pkat7 {a0 a1 a2 a3 a4 a5 a6 a7 : Value} {l : List Value} : pickAt (a0 :: a1 :: a2 :: a3 :: a4 :: a5 :: a6 :: a7 :: l) 7 = a7 := rfl
theorem pkat8 {a0 a1 a2 a3 a4 a5 a6 a7 a8 : Value} {l : List Value} : pickAt (a0 :: a1 :: a2 :: a3 :: a4 :: a5 :: a6 :: a7 :: a8 :: l) 8 = a8 := rfl
theorem pkat9 {a0 a1 a2 a3 a4 a5 a6 a7 a8 a9 : Value} {l : List Value} : pickAt (a0 :: a1 :: a2 :: a3 :: a4 :: a5 :: a6 :: a7 :: a8 :: a9 :: l) 9 = a9 := rfl
theorem pkat10 {a0 a1 a2 a3 a4 a5 a6 a7 a8 a9 a10 : Value} {l : List Value} : pickAt (a0 :: a1 :: a2 :: a3 :: a4 :: a5 :: a6 :: a7 :: a8 :: a9 :: a10 :: l) 10 = a10 := rfl
theorem pkat11 {a0 a1 a2 a3 a4 a5 a6 a7 a8 a9 a10 a11 : Value} {l : List Value} : pickAt (a0 :: a1 :: a2 :: a3 :: a4 :: a5 :: a6 :: a7 :: a8 :: a9 :: a10 :: a11 :: l) 11 = a11 := rfl
theorem pkat12 {a0 a1 a2 a3 a4 a5 a6 a7 a8 a9 a10 a11 a12 : Value} {l : List Value} : pickAt (a0 :: a1 :: a2 :: a3 :: a4 :: a5 :: a6 :: a7 :: a8 :: a9 :: a10 :: a11 :: a12 :: l) 12 = a12 := rfl
theorem oct_lt (c : UInt8) : (c % 128).toNat < 128 := by
  have : (c % 128).toNat = c.toNat % 128 := by simp
  omega
local macro_rules | `(tactic| walk_at "call builtin:bytes.decode") => `(tactic| (k_here; (with_reducible show wpAny _ _ (call (Value.builtin "bytes.decode") [Value.bytes (List.toArray (_ :: _)) _, Value.str _ _]) _ _ _); k_dflt (refine decode_ascii (by simp only [List.forall_mem_cons, oct_lt, List.not_mem_nil, false_implies, implies_true, and_self]) (by rw [sizeLine_eq]; exact Nat.le_of_ble_eq_true rfl) ?_); intro _ _))
local macro_rules | `(tactic| walk_at "subscriptTail Tuple cons BinOp ref int") => `(tactic| (k_here; (with_reducible show wpAny _ _ (subscriptTail (Expr.Tuple _ _ _) _ (Value.ref _) (Value.int _ _)) _ _ _); k_dflt (refine' tail_two ?N ?m ?a ?b ?_ ?hs; (case hs => with_unfolding_all rfl); (case N => k_asm); (case m => k_mem); (case a => exact Int.fmod_nonneg_of_pos _ (by decide)); (case b => exact Int.fmod_lt_of_pos _ (by decide)); k_whole); intro _))
local macro_rules | `(tactic| walk_at "subscriptTail Name BinOp ref int") => `(tactic| (k_here; (with_reducible show wpAny _ _ (subscriptTail (Expr.Name _ _) _ (Value.ref _) (Value.int _ _)) _ _ _); k_dflt (refine' tail_13 ?N ?m ?l ?_ ?hs; (case hs => with_unfolding_all rfl); (case N => k_asm); (case m => exact List.Mem.head _); (case l => rfl); k_whole)))
local macro_rules | `(tactic| walk_at "execs cons") => `(tactic| (k_here; (with_reducible refine wpAny_execs_cons ?_); (try dsimp only)))
local macro_rules | `(tactic| walk_at "execs cons Assign cons") => `(tactic| (k_here; (with_reducible refine wpAny_execs_cons ?_); (try dsimp only)))
theorem written_claim (hmk : Marks hd.heap_39 PySem.Challenge.rw_vy0039_01) {prog : Program} {w : World} {p : Program} {loose : List Str} {mean : ExcName → Option Value} {mg mb : Str → Option Value} (n : Int) (t t' : Tok) (b0 b1 b2 b3 b4 b5 b6 b7 : UInt8) (news : Led) :
  Claim prog w (hd.heap_39 w.params) p loose mean mg mb 146 [.int n t, .bytes #[b0, b1, b2, b3, b4, b5, b6, b7] t'] news (fun v tl => Written n [b0, b1, b2, b3, b4, b5, b6, b7] v tl) := by
  unfold Claim
  revert hmk
  k_fill
  intro _ dp un gd cn cs a ccd cl outer A₀ base h₀ L m s Q E B F X N T hk hd hu hret
  refine wpAny_call ?_
  have N0 : News h₀ L s.heap [] := News.nil
  k_dflt (refine' code_defG ?k1 ?k2 ?k3 N0 ?k5 ?kA ?kF ?kK ?k6 ?k7 ?k8 ?k9 ?kB ?_ ?c2 ?c3 ?c4 ?c5; (case kA => exact rfl); (case kF => exact rfl); (case kK => assumption); (case k1 => k_asm); (case k2 => k_asm); (case k3 => k_asm); (case k5 => k_asm); (case k6 => k_is); (case k7 => k_is); (case k8 => ktr_room); (case k9 => exact BindsTo.of_eq rfl); (case c5 => decide); (case kB => exact locs rfl); (case c2 => exact rfl); (case c3 => exact rfl); (case c4 => exact rfl); k_whole; intro g' L' h' FG' F' N' B' X' T' GS; (try dsimp only); (try k_lift B'); (try k_fold))
  k_steps
  rename Fr h₀ L _ _ => kF1
  rename News h₀ L _ _ => kN1
  rename Fr g' L' _ _ => F1
  rename News g' L' _ _ => N1
  have hfin := fin_claim N GS F1 N1 kN1
  refine hret _ _ _ _ kF1 hfin.1 hfin.2 ?_
  clear hfin hret kF1 kN1 F1 N1
  refine written_gen _ fun tl hm => ?_
  simp only [List.forall_mem_cons] at hm
  repeat (obtain ⟨_, hm⟩ := hm)
  have h13 : n.fmod 13 = 0 ∨ n.fmod 13 = 1 ∨ n.fmod 13 = 2 ∨ n.fmod 13 = 3 ∨ n.fmod 13 = 4 ∨ n.fmod 13 = 5 ∨ n.fmod 13 = 6 ∨ n.fmod 13 = 7 ∨ n.fmod 13 = 8 ∨ n.fmod 13 = 9 ∨ n.fmod 13 = 10 ∨ n.fmod 13 = 11 ∨ n.fmod 13 = 12 := fmod13 n
  rcases h13 with e | e | e | e | e | e | e | e | e | e | e | e | e
  · have hf : formOf n = 0 := formOf_of e
    unfold Written
    rw [hf, e]
    refine' ⟨_, _, _, _, pkat0, ?m1, ?m2, ?m3⟩
    case m1 => assumption
    case m2 =>
      rw [ref_0]
      try dsimp only [plainOf, List.map, baseOf]
      kqd_in
    case m3 =>
      rw [due_0]
      try dsimp only [plainOf, List.map, baseOf]
      kqd_in
  · have hf : formOf n = 1 := formOf_of e
    unfold Written
    rw [hf, e]
    refine' ⟨_, _, _, _, pkat1, ?m1, ?m2, ?m3⟩
    case m1 => assumption
    case m2 =>
      rw [ref_1]
      try dsimp only [plainOf, List.map, baseOf]
      kqd_in
    case m3 =>
      rw [due_1]
      try dsimp only [plainOf, List.map, baseOf]
      kqd_in
  · have hf : formOf n = 2 := formOf_of e
    unfold Written
    rw [hf, e]
    refine' ⟨_, _, _, _, pkat2, ?m1, ?m2, ?m3⟩
    case m1 => assumption
    case m2 =>
      rw [ref_2]
      try dsimp only [plainOf, List.map, baseOf]
      kqd_in
    case m3 =>
      rw [due_2]
      try dsimp only [plainOf, List.map, baseOf]
      kqd_in
  · have hf : formOf n = 3 := formOf_of e
    unfold Written
    rw [hf, e]
    refine' ⟨_, _, _, _, pkat3, ?m1, ?m2, ?m3⟩
    case m1 => assumption
    case m2 =>
      rw [ref_3]
      try dsimp only [plainOf, List.map, baseOf]
      kqd_in
    case m3 =>
      rw [due_3]
      try dsimp only [plainOf, List.map, baseOf]
      kqd_in
  · have hf : formOf n = 4 := formOf_of e
    unfold Written
    rw [hf, e]
    refine' ⟨_, _, _, _, pkat4, ?m1, ?m2, ?m3⟩
    case m1 => assumption
    case m2 =>
      rw [ref_4]
      try dsimp only [plainOf, List.map, baseOf]
      kqd_in
    case m3 =>
      rw [due_4]
      try dsimp only [plainOf, List.map, baseOf]
      kqd_in
  · have hf : formOf n = 5 := formOf_of e
    unfold Written
    rw [hf, e]
    refine' ⟨_, _, _, _, pkat5, ?m1, ?m2, ?m3⟩
    case m1 => assumption
    case m2 =>
      rw [ref_5]
      try dsimp only [plainOf, List.map, baseOf]
      kqd_in
    case m3 =>
      rw [due_5]
      try dsimp only [plainOf, List.map, baseOf]
      kqd_in
  · have hf : formOf n = 6 := formOf_of e
    unfold Written
    rw [hf, e]
    refine' ⟨_, _, _, _, pkat6, ?m1, ?m2, ?m3⟩
    case m1 => assumption
    case m2 =>
      rw [ref_6]
      try dsimp only [plainOf, List.map, baseOf]
      kqd_in
    case m3 =>
      rw [due_6]
      try dsimp only [plainOf, List.map, baseOf]
      kqd_in
  · have hf : formOf n = 7 := formOf_of e
    unfold Written
    rw [hf, e]
    refine' ⟨_, _, _, _, pkat7, ?m1, ?m2, ?m3⟩
    case m1 => assumption
    case m2 =>
      rw [ref_7]
      try dsimp only [plainOf, List.map, baseOf]
      kqd_in
    case m3 =>
      rw [due_7]
      try dsimp only [plainOf, List.map, baseOf]
      kqd_in
  · have hf : formOf n = 8 := formOf_of e
    unfold Written
    rw [hf, e]
    refine' ⟨_, _, _, _, pkat8, ?m1, ?m2, ?m3⟩
    case m1 => assumption
    case m2 =>
      rw [ref_8]
      try dsimp only [plainOf, List.map, baseOf]
      kqd_in
    case m3 =>
      rw [due_8]
      try dsimp only [plainOf, List.map, baseOf]
      kqd_in
  · have hf : formOf n = 9 := formOf_of e
    unfold Written
    rw [hf, e]
    refine' ⟨_, _, _, _, pkat9, ?m1, ?m2, ?m3⟩
    case m1 => assumption
    case m2 =>
      rw [ref_9]
      try dsimp only [plainOf, List.map, baseOf]
      kqd_in
    case m3 =>
      rw [due_9]
      try dsimp only [plainOf, List.map, baseOf]
      kqd_in
  · have hf : formOf n = 10 := formOf_of e
    unfold Written
    rw [hf, e]
    refine' ⟨_, _, _, _, pkat10, ?m1, ?m2, ?m3⟩
    case m1 => assumption
    case m2 =>
      rw [ref_10]
      try dsimp only [plainOf, List.map, baseOf]
      kqd_in
    case m3 =>
      rw [due_10]
      try dsimp only [plainOf, List.map, baseOf]
      kqd_in
  · have hf : formOf n = 11 := formOf_of e
    unfold Written
    rw [hf, e]
    refine' ⟨_, _, _, _, pkat11, ?m1, ?m2, ?m3⟩
    case m1 => assumption
    case m2 =>
      rw [ref_11]
      try dsimp only [plainOf, List.map, baseOf]
      kqd_in
    case m3 =>
      rw [due_11]
      try dsimp only [plainOf, List.map, baseOf]
      kqd_in
  · have hf : formOf n = 12 := formOf_of e
    unfold Written
    rw [hf, e]
    refine' ⟨_, _, _, _, pkat12, ?m1, ?m2, ?m3⟩
    case m1 => assumption
    case m2 =>
      rw [ref_12]
      try dsimp only [plainOf, List.map, baseOf]
      kqd_in
    case m3 =>
      rw [due_12]
      try dsimp only [plainOf, List.map, baseOf]
      kqd_in
end Mine
end
section
open PySem PySem.W PySem.Spec PySem.Calls PyProof.Rows
namespace Mine
set_option maxRecDepth 100000

theorem tu_mem {env : Env} {L b : Addr} {outer : List Env} (hf : env.frame = some L) (hm : b ∈ (env :: outer).filterMap (·.frame)) : b = L ∨ b ∈ outer.filterMap (·.frame) := by
  obtain ⟨e', he, hb⟩ := List.mem_filterMap.mp hm
  rcases List.mem_cons.mp he with rfl | he
  · exact .inl (Option.some.inj (hb.symm.trans hf))
  · exact .inr (List.mem_filterMap.mpr ⟨e', he, hb⟩)

section
variable {M : Model} {A : Around} {E : Value → Shared → Prop} {s' : Shared} {base g g₂ h : Heap} {outer : List Env} {L e t : Addr} {m : Str → Option Value} {env : Env} {Q : Unit → Shared → Prop} {news : List (Addr × Obj)}
theorem tu_hide (K : Below A base outer g) (F : Fr g L h m) (N : News g L h news) (hf : env.frame = some L) (hk : env.scope.kind = .function) :
    Below (A.deeper env) base (env :: outer) h ∧
    base.StaysIn (hideAll h ((env :: outer).filterMap (·.frame))) ∧
    (∀ b o, g.get? b = some o → b ∉ outer.filterMap (·.frame) → (hideAll h ((env :: outer).filterMap (·.frame))).get? b = some o) ∧
    (∀ q ∈ news, (hideAll h ((env :: outer).filterMap (·.frame))).get? q.1 = some q.2 ∧ g.get? q.1 = none ∧ base.get? q.1 = none) := by
  have K' := pushX K F hf hk
  refine ⟨K', fun b o q => hideAll_get _ (K'.stays b o q) fun hm => ?_, fun b o q nm => hideAll_get _ (F.keep b o q) fun hm => ?_, fun q hq => ⟨hideAll_get _ (N q hq).1 fun hm => ?_, (N q hq).2.2, fresh_of_stays K.stays (N q hq).2.2⟩⟩
  · rw [(K'.frames.mem hm).1] at q; cases q
  · rcases tu_mem hf hm with z | z
    · rw [z, kts_self F] at q
      cases q
    · exact nm z
  · rcases tu_mem hf hm with z | z
    · exact (N q hq).2.1 z
    · obtain ⟨o, ho, _⟩ := (K.frames.mem z).2
      rw [(N q hq).2.2] at ho; cases ho
theorem tu_Fr {G : Heap} {more : List (Addr × Obj)} (F : Fr g L G m) (N : News g L G more) : Fr g L (hideAll G (more.map (·.1))) m := by
  have nm : ∀ b o, g.get? b = some o → b ∉ more.map (·.1) := fun b o e q => by
    obtain ⟨p, hp, rfl⟩ := List.mem_map.mp q
    rw [(N p hp).2.2] at e; cases e
  obtain ⟨oL, es, ep, hL, hLd, hLk, hLf⟩ := F.ns
  have nL : L ∉ more.map (·.1) := fun q => by
    obtain ⟨p, hp, e⟩ := List.mem_map.mp q
    exact (N p hp).2.1 e
  exact ⟨⟨oL, es, ep, hideAll_get _ hL nL, hLd, hLk, hLf⟩, fun b o e => hideAll_get _ (F.keep b o e) (nm b o e), F.above⟩
end

section
variable {A₀ : Around} {base g G B h₅ : Heap} {outer : List Env} {L : Addr} {m : Str → Option Value} {env : Env}
theorem groundT (K : Below A₀ base outer g) (F : Fr g L G m) (hf : env.frame = some L) (hBG : ∀ b o, G.get? b = some o → b ∉ (env :: outer).filterMap (·.frame) → B.get? b = some o) (hBh : B.StaysIn h₅) (hsm : G.UpToSlots h₅) :
    ∃ g', KtsTurn (outer.filterMap (·.frame)) g g' ∧ Fr g' L h₅ m ∧ Below A₀ base outer g' := by
  obtain ⟨T, S⟩ := kts_turn_at (h := h₅) (fs := outer.filterMap (·.frame)) (g := g)
    (fun b hb => by
      obtain ⟨_, o, ho, _⟩ := K.frames.mem hb
      exact ⟨o, ho⟩)
    (fun b o e nm => hBh b o (hBG b o (F.keep b o e) (fun hm => by
      rcases tu_mem hf hm with z | z
      · rw [z, kts_self F] at e
        cases e
      · exact nm z)))
    (fun b o e hm => by
      obtain ⟨_, o', ho', hd⟩ := K.frames.mem hm
      rw [e] at ho'
      cases ho'
      exact hsm b o (F.keep b o e) hd)
  refine ⟨_, T, ⟨hsm.ns F.ns, S, by rw [T.size]; exact F.above⟩, ⟨K.stack, fun b o e => T.other b o (K.stays b o e) (fun hm => by
    rw [(K.frames.mem hm).1] at e
    cases e), K.frames.of_keeps fun b o e _ => ?_⟩⟩
  obtain ⟨sl, hs⟩ := T.up e
  exact ⟨_, hs, rfl⟩
end

section
variable {prog : Program} {w : World} {A₀ : Around} {E : Value → Shared → Prop} {s' : Shared} {base g g₀ G h : Heap} {outer : List Env} {L a e t : Addr} {m : Str → Option Value} {name : Str} {scope : Scope} {cd : Value} {cl : List (Str × Addr)}
  {vs : List Value} {n : Str} {b₀ : Stmt} {suite : List Stmt} {pos np : Pos} {rest : List ExceptHandler} {Q : Flow → Shared → Prop} {news : List (Addr × Obj)} {KF : Frag}
  {p : Program} {loose : List Str} {mean : ExcName → Option Value} {mg mb : Str → Option Value} {x : Str} {X T' : String}

/-- what stands once an exception is noted at the frame whose clauses are asked -/
theorem clausesX {a0 : Value} {B : Heap} (hB : base.StaysIn B) (hBG : ∀ b o, G.get? b = some o → b ∉ (envX name scope L a cd cl :: outer).filterMap (·.frame) → B.get? b = some o) (hl : ∀ q ∈ news, B.get? q.1 = some q.2 ∧ G.get? q.1 = none ∧ base.get? q.1 = none) (hL : B.get? L = none)
    (hheld₄ : Heap.HeldW B (envX name scope L a cd cl :: outer) e (.type X) a0 L s'.heap) (F : Fr g L G m) (K : Below A₀ base outer g) (hsm : G.UpToSlots s'.heap) (XB : KF.In base) (TB : Top p loose mean mg mb base)
    (D : KtsDicts (outer.filterMap (·.frame)) g)
    (ex : nsIn KF mainGlobals x = some none) (hv : bootBuiltins x = some (.type T')) (hn' : x ≠ "__name__")
    (hexc : isSubtype (.type T') (.type "BaseException") = pure true) (hnt : isSubtype (.type ((Manifest.find? T').elim "type" fun y => y.metatype)) (.type "tuple") = pure false) (hsub : isSubtype (.type X) (.type T') = pure true)
    (hk : scope.kind = .function) (hx : (envX name scope L a cd cl).kindOf x = some .globalImplicit) (hd : (x == ("__debug__" : Str)) = false)
    (hE : PassesOwnAt (model prog w) ((A₀.deeper (envX name scope L a cd cl)).mark (some (.ref e))) (A₀.deeper (envX name scope L a cd cl)) (envX name scope L a cd cl) E)
    (k : ∀ h' g', KtsTurn (outer.filterMap (·.frame)) g g' → Fr g' L h' m → News g' L h' news → Below A₀ base outer g' → KF.In g' → Top p loose mean mg mb g' → KtsDicts (outer.filterMap (·.frame)) g' →
      wpAny (model prog w) ((A₀.deeper (envX name scope L a cd cl)).mark (some (.ref e))) (execs (b₀ :: suite) (envX name scope L a cd cl)) Q E { s' with heap := h' }) :
    wpAny (model prog w) (A₀.deeper (envX name scope L a cd cl)) (setFlight (.ref e) none) (fun _ s₃ =>
        wpAny (model prog w) (A₀.deeper (envX name scope L a cd cl)) (handleBy (.ref e) (envX name scope L a cd cl) (.ExceptHandler (some (.Name x np)) none (b₀ :: suite) pos :: rest)) Q E s₃) E s' := by
  refine wpAny_landsW hheld₄ fun h₅ hheld hsm₅ => ?_
  obtain ⟨g₅, T₅, F₅, K₅⟩ := groundT (env := envX name scope L a cd cl) K F rfl hBG hheld.1 (hsm.trans hsm₅)
  have X₅ : KF.In g₅ := XB.keeps K₅.stays
  have P₅ : TopRead p loose mg mb g₅ := topRead_of (TB.keeps K₅.stays)
  obtain ⟨ob, hob, hobc⟩ := hheld.there
  refine wpAny_handleBy_builtin (X := X) (T := T') (b := true) hexc hnt hsub (nameX_B F₅ X₅ P₅ ex hv hn' ⟨rfl, ⟨ob, hob, hobc⟩, ?_⟩ hk hx hd)
  refine lands_againW hheld fun h₆ hfl₆ hsm₆ => ?_
  obtain ⟨g₆, T₆, F₆, K₆⟩ := groundT (env := envX name scope L a cd cl) K F rfl hBG hfl₆.1 ((hsm.trans hsm₅).trans hsm₆)
  have Nl : News g₆ L h₆ news := fun q hq => ⟨hfl₆.1 _ _ (hl q hq).1, (fun z => by have := (hl q hq).1; rw [z, hL] at this; cases this), T₆.none_ _ (kts_none F.keep (hl q hq).2.1)⟩
  exact wpAny_passesOwnAt hE (k h₆ g₆ T₆ F₆ Nl K₆ (XB.keeps K₆.stays) (TB.keeps K₆.stays) (D.turn T₆))

end

/-- what a call leaves when its base has turned -/
def LeaveT (A₀ : Around) (base : Heap) (env : Env) (outer : List Env) (h₀ : Heap) (L : Addr) (m : Str → Option Value) (g : Heap) (R : Result → Shared → Prop) (v : Value) (s' : Shared) : Prop :=
  ∃ g' L' m' news', KtsTurn ((env :: outer).filterMap (·.frame)) g g' ∧ Fr g' L' s'.heap m' ∧ News g' L' s'.heap news' ∧
    ∀ h₀', KtsTurn (outer.filterMap (·.frame)) h₀ h₀' → Fr h₀' L s'.heap m → News h₀' L s'.heap news' → Below A₀ base outer h₀' → R (.ok (.ret v)) s'
section
variable {prog : Program} {w : World} {A₀ A : Around} {s : Shared} {base h₀ : Heap} {outer : List Env} {L : Addr} {m : Str → Option Value} {env : Env} {news : List (Addr × Obj)} {K : Frag}
  {R : Result → Shared → Prop}
theorem enterT (B : Below A₀ base outer h₀) (F : Fr h₀ L s.heap m) (N : News h₀ L s.heap news) (hA : A.frames = some (env :: outer)) (hf : env.frame = some L) (hke : env.scope.kind = .function) (D : KtsDicts (outer.filterMap (·.frame)) h₀) :
    Fr h₀ L (hideAll s.heap (news.map (·.1))) m ∧ Below A base (env :: outer) (hideAll s.heap (news.map (·.1))) ∧ h₀.StaysIn (hideAll s.heap (news.map (·.1))) ∧ KtsDicts ((env :: outer).filterMap (·.frame)) (hideAll s.heap (news.map (·.1))) ∧
      ∀ v s', LeaveT A₀ base env outer h₀ L m (hideAll s.heap (news.map (·.1))) R v s' → R (.ok (.ret v)) s' := by
  obtain ⟨FG, BG, st, _⟩ := groundX (R := R) B F N hA hf hke
  obtain ⟨oL, es, ep, hLg, hLd, hLk, hLf⟩ := FG.ns
  refine ⟨FG, BG, st, fun b hb => ?_, fun v s' hl => ?_⟩
  · rcases tu_mem hf hb with rfl | hb
    · exact ⟨oL, es, ep, hLg, hLd⟩
    · obtain ⟨o, es', n', ho', hd'⟩ := D b hb
      exact ⟨o, es', n', st b o ho', hd'⟩
  obtain ⟨g', L', m', news', T', F', N', k⟩ := hl
  have nL₀ : h₀.get? L = none := kts_self F
  obtain ⟨sl, hs⟩ := T'.up hLg
  obtain ⟨T₁, S₁⟩ := kts_turn_at (h := s'.heap) (fs := outer.filterMap (·.frame)) (g := h₀)
    (fun b hb => by
      obtain ⟨_, o, ho', _⟩ := B.frames.mem hb
      exact ⟨o, ho'⟩)
    (fun b o e nmem => F'.keep b o (T'.other b o (st b o e) (fun q => by
      rcases tu_mem hf q with z | z
      · rw [z, nL₀] at e
        cases e
      · exact nmem z)))
    (fun b o e hm => by
      obtain ⟨sl', hs'⟩ := T'.up (st b o e)
      exact ⟨sl', F'.keep _ _ hs'⟩)
  have B₃ : Below A₀ base outer (ktsHeap s'.heap (outer.filterMap (·.frame)) h₀) := ⟨B.stack, fun b o e => T₁.other b o (B.stays b o e) (fun hm => by
    rw [(B.frames.mem hm).1] at e
    cases e), B.frames.of_keeps fun b o e _ => by
    obtain ⟨sl', hs'⟩ := T₁.up e
    exact ⟨_, hs', rfl⟩⟩
  refine k _ T₁ ⟨⟨_, es, ep, F'.keep _ _ hs, hLd, hLk, hLf⟩, S₁, by rw [T₁.size]; exact F.above⟩ (fun p hp => ⟨(N' p hp).1, fun q => ?_, ?_⟩) B₃
  · have := (N' p hp).2.2; rw [q, hs] at this; cases this
  · refine T₁.none_ _ ?_
    cases q : h₀.get? p.1 with
    | none => rfl
    | some o =>
      obtain ⟨sl', hs'⟩ := T'.up (st _ _ q)
      have := (N' p hp).2.2
      rw [hs'] at this
      cases this
end
section
variable {prog : Program} {w : World} {A₀ A : Around} {s : Shared} {base h₀ : Heap} {outer : List Env} {L : Addr} {m : Str → Option Value} {env : Env} {news : List (Addr × Obj)} {K : Frag}
  {R : Result → Shared → Prop} {p : Program} {loose : List Str} {mean : ExcName → Option Value} {mg mb : Str → Option Value} {name qual : Str} {params : Arguments} {body : List Stmt} {scope : Scope} {dV kV doc pm cdv ct oc : Value} {an od : Option Addr} {osl : Array (Option Value)} {f : Addr} {args : Args} {binds : List (Str × Value)}
/-- a def without cells is called; its base may turn -/
theorem code_defT (B : Below A₀ base outer h₀) (F : Fr h₀ L s.heap m) (X₀ : K.In h₀) (N : News h₀ L s.heap news) (T : Top p loose mean mg mb h₀) (D : KtsDicts (outer.filterMap (·.frame)) h₀) (hA : A.frames = some (env :: outer)) (hf : env.frame = some L) (hke : env.scope.kind = .function)
    (ho : K.lookup f = some ⟨oc, od, .func (fnOf name qual params body scope dV kV doc pm an cdv ct), osl⟩) (hcd : codeIn K cdv qual = true) (hroom : A.depth < recursionLimit)
    (hbind : BindsTo s (fnOf name qual params body scope dV kV doc pm an cdv ct) args binds) (hloc : ∀ y ∈ binds, scope.names.lookup y.1 = some .local)
    (h : ∀ g L' h₁, Fr h₀ L g m → Fr g L' h₁ (fun y => binds.reverse.lookup y) → News g L' h₁ news → Below A base (env :: outer) g → K.In g → Top p loose mean mg mb g → GSub s.heap g (news.map (·.1)) → KtsDicts ((env :: outer).filterMap (·.frame)) g →
      wpAny (model prog w) (A.deeper (envOf qual scope L' f cdv)) (execs body (envOf qual scope L' f cdv))
        (fun fl s' => LeaveT A₀ base env outer h₀ L m g R (match fl with | .ret v => v | _ => .none) s')
        (fun e s' => wpAny (model prog w) (A.deeper (envOf qual scope L' f cdv)) (leaving (envOf qual scope L' f cdv) e) (fun _ s'' => R (.error e) s'') (fun e' s'' => R (.error e') s'') s')
        { s with heap := h₁, toks := s.toks + binds.length })
    (hco : scope.isCoroutine = false) (hgen : scope.isGenerator = false) (hk : scope.kind = .function)
    (hcell : ∀ x ∈ scope.names, x.2 ≠ .cell) : codeAny (model prog w) A (.call (.ref f) args) R s := by
  obtain ⟨FG, BG, st, DG, lv⟩ := enterT (R := R) B F N hA hf hke D
  refine codeAny_call_def (fd := fnX name qual params body scope [] dV kV doc pm an cdv ct) (body := body) (binds := binds) hroom ((X₀.keeps F.keep) _ _ ho) rfl (T.nolimit.keeps F.keep) (codeRec_of (X₀.keeps F.keep) hcd) rfl hbind hcell hloc (fun h₁ hns hk₁ => ?_) hco hgen hk
  exact wpAny_mono (h _ s.heap.objs.size h₁ FG ⟨hns, fun b o e => hk₁ b o (of_hideAll _ e), Nat.le_of_eq (hideAll_size _ _)⟩
    (fun p hp => ⟨hk₁ _ _ (N p hp).1, Nat.ne_of_lt (Heap.lt_size (N p hp).1), hideAll_none _ (List.mem_map_of_mem hp)⟩) BG (X₀.keeps st) (T.keeps st) (fun b o e n => hideAll_get _ e n) DG) (fun fl s' hl => lv _ _ hl) fun _ _ y => y
/-- a def with cells is called; its base may turn -/
theorem code_cellsT (B : Below A₀ base outer h₀) (F : Fr h₀ L s.heap m) (X₀ : K.In h₀) (N : News h₀ L s.heap news) (T : Top p loose mean mg mb h₀) (D : KtsDicts (outer.filterMap (·.frame)) h₀) (hA : A.frames = some (env :: outer)) (hf : env.frame = some L) (hke : env.scope.kind = .function)
    (ho : K.lookup f = some ⟨oc, od, .func (fnOf name qual params body scope dV kV doc pm an cdv ct), osl⟩) (hcd : codeIn K cdv qual = true) (hroom : A.depth < recursionLimit)
    (hbind : BindsTo s (fnOf name qual params body scope dV kV doc pm an cdv ct) args binds)
    (hkind : ∀ n, ∀ x ∈ binds, scope.names.lookup x.1 = some .local ∨ (scope.names.lookup x.1 = some .cell ∧ ((cellsFrom n scope.names []).lookup x.1).isSome = true))
    (hnd : ((cellsFrom 0 scope.names []).map (·.1)).Nodup)
    (h : ∀ g L' h₁ tk cells, Fr h₀ L g m → Fr g L' h₁ (bindL (envOfC qual scope L' f cdv).kindOf binds fun _ => none) → News g L' h₁ (cells ++ news) →
      CellsAre (bindC (envOfC qual scope L' f cdv).kindOf binds fun _ => none) (cellsFrom (L' + 1) scope.names []) cells → Below A base (env :: outer) g → K.In g → Top p loose mean mg mb g → GSub s.heap g (news.map (·.1)) → KtsDicts ((env :: outer).filterMap (·.frame)) g → (∀ p ∈ news, p.1 < L') →
      wpAny (model prog w) (A.deeper (envOfC qual scope L' f cdv)) (execs body (envOfC qual scope L' f cdv))
        (fun fl s' => LeaveT A₀ base env outer h₀ L m g R (match fl with | .ret v => v | _ => .none) s')
        (fun e s' => wpAny (model prog w) (A.deeper (envOfC qual scope L' f cdv)) (leaving (envOfC qual scope L' f cdv) e) (fun _ s'' => R (.error e) s'') (fun e' s'' => R (.error e') s'') s')
        { s with heap := h₁, toks := tk })
    (hco : scope.isCoroutine = false := by rfl) (hgen : scope.isGenerator = false := by rfl) (hk : scope.kind = .function := by rfl) : codeAny (model prog w) A (.call (.ref f) args) R s := by
  obtain ⟨FG, BG, st, DG, lv⟩ := enterT (R := R) B F N hA hf hke D
  refine codeAny_call_function (fd := fnX name qual params body scope [] dV kV doc pm an cdv ct) hroom ((X₀.keeps F.keep) _ _ ho) rfl hco hgen rfl (codeRec_of (X₀.keeps F.keep) hcd) (hbind _ _ _ _ ?_)
  refine wpAny_newFunctionEnv_cells hk (hkind _) fun env' he s' x => ?_
  subst he
  refine ⟨(T.nolimit.keeps F.keep).keeps x.toInCall.keep, codeAny_func ?_⟩
  obtain ⟨h₁, tk, rfl, _⟩ := x.done
  have hk₁ := x.toInCall.keep
  obtain ⟨cells, NC, Y⟩ := Cl.news (h₀ := s.heap) (Nat.le_refl _) fun n c hm => ⟨x.cell n c (lookup_of_mem_nodup (cellsFrom_names scope.names 0 (s.heap.objs.size + 1) [] [] rfl ▸ hnd) hm), x.above n c hm⟩
  refine wpAny_mono (h _ s.heap.objs.size h₁ tk cells FG ⟨x.toInCall.ns, fun b o e => hk₁ b o (of_hideAll _ e), Nat.le_of_eq (hideAll_size _ _)⟩ (fun p hp => ?_) Y BG (X₀.keeps st) (T.keeps st) (fun b o e n => hideAll_get _ e n) DG (fun p hp => Heap.lt_size (N p hp).1)) (fun fl s' hl => lv _ _ hl) fun _ _ y => y
  rcases List.mem_append.mp hp with hp | hp
  · refine ⟨(NC p hp).1, (NC p hp).2.1, ?_⟩
    cases q : (hideAll s.heap (news.map (·.1))).get? p.1 with
    | none => rfl
    | some o => have := of_hideAll _ q; rw [(NC p hp).2.2] at this; cases this
  · exact ⟨hk₁ _ _ (N p hp).1, Nat.ne_of_lt (Heap.lt_size (N p hp).1), hideAll_none _ (List.mem_map_of_mem hp)⟩
end
/-- nothing lies on the stack: nothing turns -/
theorem turn_nil {g g' : Heap} (T : KtsTurn [] g g') : ∀ b, g'.get? b = g.get? b := fun b => by
  cases e : g.get? b with
  | none => exact T.none_ b e
  | some o => exact T.other b o e (fun h => nomatch h)
theorem turn_back {g g' h : Heap} {L : Addr} {m : Str → Option Value} {news : Led} (T : KtsTurn [] g g') (F : Fr g' L h m) (N : News g' L h news) : Fr g L h m ∧ News g L h news :=
  ⟨⟨F.ns, fun b o e => F.keep b o ((turn_nil T b).trans e), by rw [← T.size]; exact F.above⟩, fun p hp => ⟨(N p hp).1, (N p hp).2.1, (turn_nil T _).symm.trans (N p hp).2.2⟩⟩
end Mine
end
section
open PySem PySem.W PySem.Spec PySem.Calls PyProof.Rows
namespace Mine
set_option maxRecDepth 100000
section
variable {prog : Program} {w : World} {A : Around} {E : Value → Shared → Prop} {s : Shared}
/-- two items, one target -/
theorem unpack_many {t : Addr} {x y : Value} {targets : List (Bool × (Value → Sem Unit))} {Q : Unit → Shared → Prop} (hh : A.handled = none) (ht : IsTup s.heap t #[x, y])
    (hn : targets.length = 1) (hstar : targets.findIdx? (·.1) = none)
    (h : ∀ h' tk e, Heap.NewExc s.heap h' e "ValueError" → E (.ref e) { s with heap := h', toks := tk }) :
    wpAny (model prog w) A (unpack (.ref t) targets) Q E s := by
  have hlt : t ≠ s.heap.objs.size := by obtain ⟨o, ho, _⟩ := ht; exact Nat.ne_of_lt (Heap.lt_size ho)
  unfold unpack
  rw [hn, hstar]
  refine wpAny_bind (wpAny_holding ?_)
  unfold unpackItems
  refine wpAny_bind ?_
  unfold notIterableAtAll
  refine wpAny_bind (wpAny_specialOf ht.typeIs slot_tuple_iter.lookup ?_)
  refine wpAny_pure ?_
  simp only [Bool.false_eq_true, if_false]
  refine wpAny_bind (wpAny_holding (iter_tuple ht ?_))
  refine wpAny_bind (wpAny_holding (draw_tuple hlt 1 0 _ _ ⟨_, Heap.get?_push_size _ rfl, rfl, rfl⟩ (ht.push _) (by simp) fun h₁ hit₁ hs₁ => ?_))
  have hall : List.take 1 (List.drop 0 (#[x, y] : Array Value).toList) = [x] := rfl
  rw [hall]
  rw [if_neg (by simp)]
  have ht₁ : IsTup h₁ t #[x, y] := (ht.push _).extBut hs₁.extBut hlt
  refine wpAny_bind (wpAny_holding (next_tuple_item hit₁ ht₁ (x := y) rfl fun h₂ _ hs₂ => ?_))
  simp only [Option.isSome_some, if_true]
  have keep : ∀ b o, s.heap.get? b = some o → h₂.get? b = some o := fun b o e => by
    have hb : b ≠ s.heap.objs.size := Nat.ne_of_lt (Heap.lt_size e)
    exact (hs₂.2 b hb).trans ((hs₁.2 b hb).trans (Heap.get?_push_of_some _ e))
  refine wpAny_bind (wpAny_rule ?_)
  have fin : ∀ h' tk e, Heap.NewExc h₂ h' e "ValueError" → E (.ref e) { s with heap := h', toks := tk } := fun h' tk e hx => h h' tk e ⟨fun b o q => hx.keeps b o (keep b o q), (by
    cases q : s.heap.get? e with
    | none => rfl
    | some o => exact absurd (keep e o q) (by rw [hx.new]; intro z; cases z)), hx.there⟩
  first
    | exact wpAny_bind (by exact_raiseError plainExc_ValueError hh fin)
    | exact (by exact_raiseError plainExc_ValueError hh fin)
theorem assign_many {env : Env} {elts : List Expr} {x1} {pos : Pos} {t : Addr} {x y : Value} {Q : Unit → Shared → Prop} (hh : A.handled = none) (ht : IsTup s.heap t #[x, y])
    (hn : (assignEach elts env).length = 1) (hstar : (assignEach elts env).findIdx? (·.1) = none)
    (h : ∀ h' tk e, Heap.NewExc s.heap h' e "ValueError" → E (.ref e) { s with heap := h', toks := tk }) :
    wpAny (model prog w) A (assign (.Tuple elts x1 pos) env (.ref t)) Q E s := by
  rw [assign_Tuple]
  exact wpAny_bind (wpAny_standAt (unpack_many hh ht hn hstar h))
end
section
variable {prog : Program} {w : World} {A₀ : Around} {E : Value → Shared → Prop} {s' : Shared} {base g g₀ G h : Heap} {outer : List Env} {L a e t : Addr} {m : Str → Option Value} {name : Str} {scope : Scope} {cd : Value} {cl : List (Str × Addr)}
  {vs : List Value} {n : Str} {b₀ : Stmt} {suite : List Stmt} {pos np : Pos} {rest : List ExceptHandler} {Q : Flow → Shared → Prop} {news : List (Addr × Obj)} {KF : Frag}
  {p : Program} {loose : List Str} {mean : ExcName → Option Value} {mg mb : Str → Option Value} {x : Str} {X T' : String}

end
/-- a contract whose base may turn -/
abbrev ClaimT (prog : Program) (w : World) (K : Frag) (p : Program) (loose : List Str) (mean : ExcName → Option Value) (mg mb : Str → Option Value) (f : Addr) (vs : List Value) (news : Led) (R : Value → Led → Prop) : Prop :=
  ∀ (dp un : Nat) (gd : Option (List Code)) (cn : Str) (cs : Scope) (a : Addr) (ccd : Value) (cl : List (Str × Addr)) (outer : List Env) (A₀ : Around) (base h₀ : Heap) (L : Addr) (m : Str → Option Value) (s : Shared) (Q E : Value → Shared → Prop),
    Below A₀ base outer h₀ → Fr h₀ L s.heap m → K.In h₀ → News h₀ L s.heap news → Top p loose mean mg mb h₀ → cs.kind = .function →
    K.In base → Top p loose mean mg mb base → KtsDicts (outer.filterMap (·.frame)) h₀ →
    dp + 30 < recursionLimit → un + 300 < cLine →
    (∀ v tl h₀' h' tk', KtsTurn (outer.filterMap (·.frame)) h₀ h₀' → Below A₀ base outer h₀' → Fr h₀' L h' m → News h₀' L h' (tl ++ news) → (∀ q ∈ news, ∀ p ∈ tl, p.1 ≠ q.1) → R v tl → Q v { s with heap := h', toks := tk' }) →
    wpAny (model prog w) (ktrTop dp un gd cn cs L a ccd cl outer) (call (.ref f) vs) Q E s
theorem Claim.toT {prog : Program} {w : World} {K : Frag} {p : Program} {loose : List Str} {mean : ExcName → Option Value} {mg mb : Str → Option Value} {f : Addr} {vs : List Value} {news : Led} {R : Value → Led → Prop}
    (c : Claim prog w K p loose mean mg mb f vs news R) : ClaimT prog w K p loose mean mg mb f vs news R :=
  fun dp un gd cn cs a ccd cl outer A₀ base h₀ L m s Q E B F X N T hk _ _ _ hd hu hret =>
    c dp un gd cn cs a ccd cl outer A₀ base h₀ L m s Q E B F X N T hk hd hu fun v tl h' tk' F' N' ne r => hret v tl h₀ h' tk' KtsTurn.refl B F' N' ne r
theorem fin_clsT {A₀ : Around} {base h₀ h₀' g g' h' H1 : Heap} {env : Env} {outer : List Env} {L L' x1 d1 : Addr} {o1 o2 : Obj} {m' : Str → Option Value} {tl news sub fin : Led} (hf : env.frame = some L) (B : Below A₀ base outer h₀)
    (N1 : News h₀ L H1 ((x1, o1) :: (d1, o2) :: news)) (l1 : ∀ p ∈ news, p.1 < d1) (l2 : @LT.lt Nat _ d1 x1) (hs : ∀ p ∈ sub, p ∈ news)
    (GS : GSub H1 g (((x1, o1) :: (d1, o2) :: sub).map fun x => x.1)) (T' : KtsTurn ((env :: outer).filterMap (·.frame)) g g') (T₀ : KtsTurn (outer.filterMap (·.frame)) h₀ h₀')
    (F' : Fr g' L' h' m') (N' : News g' L' h' fin) (kN : News h₀' L h' fin)
    (hfin : ∀ p ∈ sub, p ∈ fin) (htl : ∀ p ∈ tl, p ∈ fin) (hne : ∀ p ∈ tl, ∀ q ∈ sub, p.1 ≠ q.1) :
    News h₀' L h' (tl ++ news) ∧ ∀ q ∈ news, ∀ p ∈ tl, p.1 ≠ q.1 := by
  have off : ∀ q ∈ news, q.1 ∉ (env :: outer).filterMap (·.frame) := fun q hq hm => by
    have hN := N1 q (.tail _ (.tail _ hq))
    rcases tu_mem hf hm with z | z
    · exact hN.2.1 z
    · obtain ⟨o, ho, _⟩ := (B.frames.mem z).2
      rw [hN.2.2] at ho; cases ho
  have way : ∀ q ∈ news, q ∈ sub ∨ g'.get? q.1 = some q.2 := fun q hq => by
    by_cases hm : q.1 ∈ ((x1, o1) :: (d1, o2) :: sub).map fun x => x.1
    · left
      have hlt : @LT.lt Nat _ q.1 d1 := l1 q hq
      rcases List.mem_cons.mp hm with e | hm
      · have e' : q.1 = x1 := e
        rw [e'] at hlt
        exact absurd hlt (by omega)
      · rcases List.mem_cons.mp hm with e | hm
        · have e' : q.1 = d1 := e
          rw [e'] at hlt
          exact absurd hlt (Nat.lt_irrefl _)
        · obtain ⟨p0, hp0, e⟩ := List.mem_map.mp hm
          have a1 := (N1 p0 (.tail _ (.tail _ (hs p0 hp0)))).1
          have a2 := (N1 q (.tail _ (.tail _ hq))).1
          have e' : p0.1 = q.1 := e
          rw [e', a2] at a1
          have : p0 = q := Prod.ext e' (Option.some.inj a1).symm
          exact this ▸ hp0
    · exact .inr (T'.other _ _ (GS _ _ (N1 q (.tail _ (.tail _ hq))).1 hm) (off q hq))
  refine ⟨fun p hp => ?_, fun q hq p hp e => ?_⟩
  · rcases List.mem_append.mp hp with hp | hp
    · exact kN p (htl p hp)
    · rcases way p hp with h | h
      · exact kN p (hfin p h)
      · have := N1 p (.tail _ (.tail _ hp))
        exact ⟨F'.keep _ _ h, this.2.1, T₀.none_ _ this.2.2⟩
  · rcases way q hq with h | h
    · exact hne p hp q h e
    · have h1 := (N' p (htl p hp)).2.2
      rw [e, h] at h1
      cases h1
end Mine
end
section
open PySem PySem.W PySem.Spec PySem.Calls PyProof.Rows
namespace Mine
set_option maxRecDepth 100000
section
variable {M : Model} {A : Around} {E : Value → Shared → Prop} {s' : Shared} {base g g₂ h : Heap} {outer : List Env} {L e t : Addr} {m : Str → Option Value} {env : Env} {Q : Unit → Shared → Prop} {news : List (Addr × Obj)}
theorem leave_newX {cls : String} (K : Below A base outer g) (hx : Heap.NewExc h s'.heap e cls) (F : Fr g L h m) (N : News g L h news) (hf : env.frame = some L) (hk : env.scope.kind = .function)
    (hQ : ∀ h', RaisedSN base g outer e (.type cls) news h' → g.UpToSlots h' → Q () { s' with heap := h' }) :
    wpAny M (A.deeper env) (leaving env (.ref e)) Q E s' := by
  obtain ⟨K', st, sg, hl⟩ := tu_hide K F N hf hk
  have hin : ∀ env' ∈ (env :: outer), ∀ b, env'.frame = some b → b ∈ (env :: outer).filterMap (·.frame) := fun env' he b hb => List.mem_filterMap.mpr ⟨env', he, hb⟩
  obtain ⟨ob, tp, he, hcls, hd⟩ := hx.there
  have hen : (hideAll h ((env :: outer).filterMap (·.frame))).get? e = none := by
    cases q : (hideAll h ((env :: outer).filterMap (·.frame))).get? e with
    | none => rfl
    | some o => have := of_hideAll _ q; rw [hx.new] at this; cases this
  refine wpAny_leaving_firstW (a0 := tp) K'.stack ((funFrames_hide K'.frames hin).of_keeps fun b o hb _ => ⟨o, hx.keeps b o hb, rfl⟩) hf he (fun b o hb => hx.keeps b o (of_hideAll _ hb)) hen hd rfl rfl fun h' hL => ?_
  obtain ⟨k1, ⟨_, _, k2⟩, k3, k4⟩ := hL
  exact hQ h' ⟨_, tp, st, sg, hl, k1, hen, k2, by rw [← hcls]; exact k3⟩ (((Heap.UpToSlots.of_keeps F.keep).trans (Heap.UpToSlots.of_keeps hx.keeps)).trans k4)
theorem leave_onXN {cls : Value} (K : Below A base outer g) (F : Fr g L g₂ m) (R : RaisedSN base g₂ (env :: outer) e cls news s'.heap) (hsm : g₂.UpToSlots s'.heap) (hf : env.frame = some L)
    (hQ : ∀ h', RaisedSN base g outer e cls news h' → g.UpToSlots h' → Q () { s' with heap := h' }) :
    wpAny M (A.deeper env) (leaving env (.ref e)) Q E s' := by
  obtain ⟨B, a0, hB, hBG, hl, hfl⟩ := R
  exact wpAny_leaves_onW (Around.frames_deeper K.stack) hf hfl fun h' x1 x2 =>
    hQ h' ⟨B, a0, hB, fun b o q nm => hBG b o (F.keep b o q) (fun hm => by
      rcases tu_mem hf hm with z | z
      · rw [z, kts_self F] at q
        cases q
      · exact nm z), fun q hq => ⟨(hl q hq).1, kts_none F.keep (hl q hq).2.1, (hl q hq).2.2⟩, x1⟩ ((Heap.UpToSlots.of_keeps F.keep).trans (hsm.trans x2))
theorem widenN {A₀ : Around} {cls : Value} {G : Heap} {more : List (Addr × Obj)} (R : RaisedSN base G (env :: outer) e cls news h) (U : G.UpToSlots h) (K : Below A₀ base outer g) (F : Fr g L G m) (N : News g L G more) (hf : env.frame = some L) :
    Fr g L (hideAll G (more.map (·.1))) m ∧ RaisedSN base (hideAll G (more.map (·.1))) (env :: outer) e cls (more ++ news) h ∧ (hideAll G (more.map (·.1))).UpToSlots h := by
  obtain ⟨B, a0, hB, hBG, hl, hfl⟩ := R
  refine ⟨tu_Fr F N, ⟨B, a0, hB, fun b o q n => hBG b o (of_hideAll _ q) n, fun q hq => ?_, hfl⟩, fun b o q n => U b o (of_hideAll _ q) n⟩
  rcases List.mem_append.mp hq with hq | hq
  · refine ⟨hBG _ _ (N q hq).1 fun hm => ?_, hideAll_none _ (List.mem_map_of_mem hq), fresh_of_stays K.stays (N q hq).2.2⟩
    rcases tu_mem hf hm with z | z
    · exact (N q hq).2.1 z
    · obtain ⟨o, ho, _⟩ := (K.frames.mem z).2
      rw [(N q hq).2.2] at ho; cases ho
  · refine ⟨(hl q hq).1, ?_, (hl q hq).2.2⟩
    cases z : (hideAll G (more.map (·.1))).get? q.1 with
    | none => rfl
    | some o => have := of_hideAll _ z; rw [(hl q hq).2.1] at this; cases this
end
section
variable {prog : Program} {w : World} {A₀ : Around} {E : Value → Shared → Prop} {s' : Shared} {base g g₀ G h : Heap} {outer : List Env} {L a e t : Addr} {m : Str → Option Value} {name : Str} {scope : Scope} {cd : Value} {cl : List (Str × Addr)}
  {vs : List Value} {n : Str} {b₀ : Stmt} {suite : List Stmt} {pos np : Pos} {rest : List ExceptHandler} {Q : Flow → Shared → Prop} {news : List (Addr × Obj)} {KF : Frag}
  {p : Program} {loose : List Str} {mean : ExcName → Option Value} {mg mb : Str → Option Value} {x : Str} {X T' : String}
theorem caughtXN (R : RaisedSN base G (envX name scope L a cd cl :: outer) e (.type X) news s'.heap) (F : Fr g L G m) (K : Below A₀ base outer g) (hsm : G.UpToSlots s'.heap) (XB : KF.In base) (TB : Top p loose mean mg mb base)
    (D : KtsDicts (outer.filterMap (·.frame)) g)
    (ex : nsIn KF mainGlobals x = some none) (hv : bootBuiltins x = some (.type T')) (hn' : x ≠ "__name__")
    (hexc : isSubtype (.type T') (.type "BaseException") = pure true) (hnt : isSubtype (.type ((Manifest.find? T').elim "type" fun y => y.metatype)) (.type "tuple") = pure false) (hsub : isSubtype (.type X) (.type T') = pure true)
    (k : ∀ h' g', KtsTurn (outer.filterMap (·.frame)) g g' → Fr g' L h' m → News g' L h' news → Below A₀ base outer g' → KF.In g' → Top p loose mean mg mb g' → KtsDicts (outer.filterMap (·.frame)) g' →
      wpAny (model prog w) ((A₀.deeper (envX name scope L a cd cl)).mark (some (.ref e))) (execs (b₀ :: suite) (envX name scope L a cd cl)) Q E { s' with heap := h' })
    (hk : scope.kind = .function := by rfl) (hx : (envX name scope L a cd cl).kindOf x = some .globalImplicit := by rfl) (hd : (x == ("__debug__" : Str)) = false := by decide)
    (hE : PassesOwnAt (model prog w) ((A₀.deeper (envX name scope L a cd cl)).mark (some (.ref e))) (A₀.deeper (envX name scope L a cd cl)) (envX name scope L a cd cl) E := by passes_own) :
    wpAny (model prog w) (A₀.deeper (envX name scope L a cd cl)) (noteFrame (.ref e) (envX name scope L a cd cl))
      (fun _ s₂ => wpAny (model prog w) (A₀.deeper (envX name scope L a cd cl)) (setFlight (.ref e) none) (fun _ s₃ =>
        wpAny (model prog w) (A₀.deeper (envX name scope L a cd cl)) (handleBy (.ref e) (envX name scope L a cd cl) (.ExceptHandler (some (.Name x np)) none (b₀ :: suite) pos :: rest)) Q E s₃) E s₂) E s' := by
  obtain ⟨B, a0, hB, hBG, hl, hfl⟩ := R
  have hL : B.get? L = none := by
    obtain ⟨_, ⟨L', _, hf, hn', _⟩, _⟩ := hfl.2.2.1
    obtain rfl : L = L' := Option.some.inj hf
    exact hn'
  refine wpAny_looks_onW (Around.frames_deeper K.stack) rfl hfl fun h₄ hheld₄ hsm₄ => ?_
  exact clausesX hB hBG hl hL hheld₄ F K (hsm.trans hsm₄) XB TB D ex hv hn' hexc hnt hsub hk hx hd hE fun h' g' => k h' g'
end
theorem isSame_other {M : Model} {A : Around} {E : Value → Shared → Prop} {s : Shared} {x : Addr} {v : Value} {Q : Value → Shared → Prop} (hv : isSame (.ref x) v = pure false) (h : Q (.bool false) s) : wpAny M A (compareOp .Is (.ref x) v) Q E s := by
  unfold compareOp
  rw [hv]
  exact wpAny_bind (wpAny_pure (wpAny_pure h))
end Mine
end
section
open PySem PySem.W PyProof.Rows
namespace Mine
set_option maxRecDepth 100000
open PySem.SeqAt
open Builtin
theorem bytes_declines (b : Array UInt8) (t : Tok) {v : Value} {T : String} (hs : ∀ s : Shared, s.TypeIs v T) (hsub : isSubtype (.type T) (.type "bytes") = pure false) :
    Gives («bytes.__eq__» ⟨[.bytes b t, v], []⟩) (.val .notImplemented) := by
  refine .of_wp fun M A E s Q hq => ?_
  show wpAny M A (isInstance v (.type "bytes") >>= fun r => _) _ E s
  refine wpAny_bind (wpAny_isInstance (hs s) hsub ?_)
  simp only [Bool.not_false, if_true]
  exact wpAny_bind (wpAny_rule (wpAny_pure ⟨_, rfl, hq⟩))
theorem bytes_declines_at (b : Array UInt8) (t : Tok) (l : Addr) (c : String) (hsub : isSubtype (.type c) (.type "bytes") = pure false) (items : Array Value) (n : Nat) (dd : Option Addr) (sl : Array (Option Value)) :
    Meets («bytes.__eq__» ⟨[.bytes b t, .ref l], []⟩) (fun _ R s => s.heap.get? l = some { cls := .type c, dict := dd, data := .seq items n, slots := sl } ∧ R (.ok (.ret .notImplemented)) s) := by
  refine .of_wp fun prog w A R s h => ?_
  show wpAny _ A.in1 (isInstance (.ref l) (.type "bytes") >>= fun r => _) _ _ s
  refine wpAny_bind (wpAny_isInstance ⟨_, h.1, rfl⟩ hsub ?_)
  simp only [Bool.not_false, if_true]
  exact wpAny_bind (wpAny_rule (wpAny_pure ⟨_, rfl, h.2⟩))
theorem none_declines_bytes (b : Array UInt8) (t : Tok) : Gives («NoneType.__eq__» ⟨[.none, .bytes b t], []⟩) (.val .notImplemented) :=
  .of_wp fun M A E s Q h => by obtain ⟨hp, g, d, tk, os⟩ := s; wp_walk; exact ⟨_, rfl, h⟩
theorem int_declines_bytes (a : Int) (u : Tok) (b : Array UInt8) (t : Tok) : Gives («int.__eq__» ⟨[.int a u, .bytes b t], []⟩) (.val .notImplemented) :=
  .of_wp fun M A E s Q h => by obtain ⟨hp, g, d, tk, os⟩ := s; wp_walk; exact ⟨_, rfl, h⟩
theorem bool_declines_bytes (a : Bool) (b : Array UInt8) (t : Tok) : Gives («int.__eq__» ⟨[.bool a, .bytes b t], []⟩) (.val .notImplemented) :=
  .of_wp fun M A E s Q h => by obtain ⟨hp, g, d, tk, os⟩ := s; wp_walk; exact ⟨_, rfl, h⟩
theorem str_declines_bytes (a : PySem.Str) (u : Tok) (b : Array UInt8) (t : Tok) : Gives («str.__eq__» ⟨[.str a u, .bytes b t], []⟩) (.val .notImplemented) :=
  .of_wp fun M A E s Q h => by obtain ⟨hp, g, d, tk, os⟩ := s; wp_walk; exact ⟨_, rfl, h⟩
theorem tuple_declines_bytes (l : Addr) (items : Array Value) (n : Nat) (dd : Option Addr) (sl : Array (Option Value)) (b : Array UInt8) (u : Tok) :
    Meets («tuple.__eq__» ⟨[.ref l, .bytes b u], []⟩) (fun _ R s => s.heap.get? l = some { cls := .type "tuple", dict := dd, data := .seq items n, slots := sl } ∧ R (.ok (.ret .notImplemented)) s) :=
  .of_wp fun prog w A R s h => by
    obtain ⟨hl, h⟩ := h
    show wpAny _ A.in1 (isInstance (.bytes b u) (.type "tuple") >>= fun r => _) _ _ s
    refine wpAny_bind (wpAny_isInstance (typeIs_bytes s b u) F.sub_bytes_tuple ?_)
    first
      | exact wpAny_pure ⟨_, rfl, h⟩
      | (rw [if_pos rfl]; exact wpAny_pure ⟨_, rfl, h⟩)
theorem list_declines_bytes (l : Addr) (items : Array Value) (n : Nat) (dd : Option Addr) (sl : Array (Option Value)) (b : Array UInt8) (u : Tok) :
    Meets («list.__eq__» ⟨[.ref l, .bytes b u], []⟩) (fun _ R s => s.heap.get? l = some { cls := .type "list", dict := dd, data := .seq items n, slots := sl } ∧ R (.ok (.ret .notImplemented)) s) :=
  .of_wp fun prog w A R s h => by
    obtain ⟨hl, h⟩ := h
    show wpAny _ A.in1 (isInstance (.bytes b u) (.type "list") >>= fun r => _) _ _ s
    refine wpAny_bind (wpAny_isInstance (typeIs_bytes s b u) F.sub_bytes_list ?_)
    first
      | exact wpAny_pure ⟨_, rfl, h⟩
      | (rw [if_pos rfl]; exact wpAny_pure ⟨_, rfl, h⟩)
theorem slot_bytes_refl : Slot "bytes" (cmpInfo .Eq).2.2 "bytes.__eq__" := FB.slot_bytes_eq
section
variable {A : Around} {s : Shared}
def noFloat : Value → Bool
  | .float _ _ => false
  | _ => true
theorem eqAt_of {a b : Value} (ha : noFloat a = true) (hne : a ≠ b) (h : RcAt A s a b false) : EqAt A s a b false := fun prog w E Q hq => by
  unfold eqBool
  refine wpAny_holding ?_
  refine wpAny_ite_split (fun hab => absurd (eq_of_beq hab) hne) (fun _ => ?_)
  cases a <;> first | (exact wpAny_bind (h prog w E _ (wpAny_truthy_bool hq))) | (exact absurd ha nofun)
theorem rc_bytes_none (b : Array UInt8) (t : Tok) : RcAt A s (.bytes b t) .none false := fun prog w E Q h =>
  rc_eq_decline_or (k := false) (typeIs_bytes s b t) rfl (by decide) F.sub_NoneType_bytes FB.slot_bytes_eq F.slot_NoneType_eq_refl
    (fun _ hq => call_gives FB.slot_bytes_eq (typeIs_bytes s b t) FB.entry_bytes_eq (FB.args_bytes_eq_2 _ _) (bytes_declines b t (fun _ => rfl) F.sub_NoneType_bytes) hq)
    (fun _ hq => call_gives F.slot_NoneType_eq_refl rfl F.entry_NoneType_eq (F.args_NoneType_eq_2 _ _) (none_declines_bytes b t) hq)
    (fun _ hq => wpAny_of_eq (rfl : isSame (.bytes b t) .none = pure false) hq) (.inl rfl) h
theorem rc_none_bytes (b : Array UInt8) (t : Tok) : RcAt A s .none (.bytes b t) false := fun prog w E Q h =>
  rc_eq_decline_or (k := false) rfl (typeIs_bytes s b t) (by decide) F.sub_bytes_NoneType F.slot_NoneType_eq slot_bytes_refl
    (fun _ hq => call_gives F.slot_NoneType_eq rfl F.entry_NoneType_eq (F.args_NoneType_eq_2 _ _) (none_declines_bytes b t) hq)
    (fun _ hq => call_gives slot_bytes_refl (typeIs_bytes s b t) FB.entry_bytes_eq (FB.args_bytes_eq_2 _ _) (bytes_declines b t (fun _ => rfl) F.sub_NoneType_bytes) hq)
    (fun _ hq => wpAny_of_eq (rfl : isSame .none (.bytes b t) = pure false) hq) (.inl rfl) h
theorem rc_bytes_int (b : Array UInt8) (t : Tok) (a : Int) (u : Tok) : RcAt A s (.bytes b t) (.int a u) false := fun prog w E Q h =>
  rc_eq_decline_or (k := false) (typeIs_bytes s b t) (typeIs_int s a u) (by decide) F.sub_int_bytes FB.slot_bytes_eq F.slot_int_eq_refl
    (fun _ hq => call_gives FB.slot_bytes_eq (typeIs_bytes s b t) FB.entry_bytes_eq (FB.args_bytes_eq_2 _ _) (bytes_declines b t (fun s => typeIs_int s a u) F.sub_int_bytes) hq)
    (fun _ hq => call_gives F.slot_int_eq_refl (typeIs_int s a u) F.entry_int_eq (F.args_int_eq_2 _ _) (int_declines_bytes a u b t) hq)
    (fun _ hq => wpAny_of_eq (rfl : isSame (.bytes b t) (.int a u) = pure false) hq) (.inl rfl) h
theorem rc_int_bytes (b : Array UInt8) (t : Tok) (a : Int) (u : Tok) : RcAt A s (.int a u) (.bytes b t) false := fun prog w E Q h =>
  rc_eq_decline_or (k := false) (typeIs_int s a u) (typeIs_bytes s b t) (by decide) F.sub_bytes_int F.slot_int_eq slot_bytes_refl
    (fun _ hq => call_gives F.slot_int_eq (typeIs_int s a u) F.entry_int_eq (F.args_int_eq_2 _ _) (int_declines_bytes a u b t) hq)
    (fun _ hq => call_gives slot_bytes_refl (typeIs_bytes s b t) FB.entry_bytes_eq (FB.args_bytes_eq_2 _ _) (bytes_declines b t (fun s => typeIs_int s a u) F.sub_int_bytes) hq)
    (fun _ hq => wpAny_of_eq (rfl : isSame (.int a u) (.bytes b t) = pure false) hq) (.inl rfl) h
theorem rc_bytes_bool (b : Array UInt8) (t : Tok) (a : Bool) : RcAt A s (.bytes b t) (.bool a) false := fun prog w E Q h =>
  rc_eq_decline_or (k := false) (typeIs_bytes s b t) rfl (by decide) F.sub_bool_bytes FB.slot_bytes_eq F.slot_bool_eq_refl
    (fun _ hq => call_gives FB.slot_bytes_eq (typeIs_bytes s b t) FB.entry_bytes_eq (FB.args_bytes_eq_2 _ _) (bytes_declines b t (fun _ => rfl) F.sub_bool_bytes) hq)
    (fun _ hq => call_gives F.slot_bool_eq_refl rfl F.entry_int_eq (F.args_int_eq_2 _ _) (bool_declines_bytes a b t) hq)
    (fun _ hq => wpAny_of_eq (rfl : isSame (.bytes b t) (.bool a) = pure false) hq) (.inl rfl) h
theorem rc_bool_bytes (b : Array UInt8) (t : Tok) (a : Bool) : RcAt A s (.bool a) (.bytes b t) false := fun prog w E Q h =>
  rc_eq_decline_or (k := false) rfl (typeIs_bytes s b t) (by decide) F.sub_bytes_bool F.slot_bool_eq slot_bytes_refl
    (fun _ hq => call_gives F.slot_bool_eq rfl F.entry_int_eq (F.args_int_eq_2 _ _) (bool_declines_bytes a b t) hq)
    (fun _ hq => call_gives slot_bytes_refl (typeIs_bytes s b t) FB.entry_bytes_eq (FB.args_bytes_eq_2 _ _) (bytes_declines b t (fun _ => rfl) F.sub_bool_bytes) hq)
    (fun _ hq => wpAny_of_eq (rfl : isSame (.bool a) (.bytes b t) = pure false) hq) (.inl rfl) h
theorem rc_bytes_str (b : Array UInt8) (t : Tok) (a : PySem.Str) (u : Tok) : RcAt A s (.bytes b t) (.str a u) false := fun prog w E Q h =>
  rc_eq_decline_or (k := false) (typeIs_bytes s b t) (typeIs_str s a u) (by decide) F.sub_str_bytes FB.slot_bytes_eq F.slot_str_eq_refl
    (fun _ hq => call_gives FB.slot_bytes_eq (typeIs_bytes s b t) FB.entry_bytes_eq (FB.args_bytes_eq_2 _ _) (bytes_declines b t (fun s => typeIs_str s a u) F.sub_str_bytes) hq)
    (fun _ hq => call_gives F.slot_str_eq_refl (typeIs_str s a u) F.entry_str_eq (F.args_str_eq_2 _ _) (str_declines_bytes a u b t) hq)
    (fun _ hq => wpAny_of_eq (rfl : isSame (.bytes b t) (.str a u) = pure false) hq) (.inl rfl) h
theorem rc_str_bytes (b : Array UInt8) (t : Tok) (a : PySem.Str) (u : Tok) : RcAt A s (.str a u) (.bytes b t) false := fun prog w E Q h =>
  rc_eq_decline_or (k := false) (typeIs_str s a u) (typeIs_bytes s b t) (by decide) F.sub_bytes_str F.slot_str_eq slot_bytes_refl
    (fun _ hq => call_gives F.slot_str_eq (typeIs_str s a u) F.entry_str_eq (F.args_str_eq_2 _ _) (str_declines_bytes a u b t) hq)
    (fun _ hq => call_gives slot_bytes_refl (typeIs_bytes s b t) FB.entry_bytes_eq (FB.args_bytes_eq_2 _ _) (bytes_declines b t (fun s => typeIs_str s a u) F.sub_str_bytes) hq)
    (fun _ hq => wpAny_of_eq (rfl : isSame (.str a u) (.bytes b t) = pure false) hq) (.inl rfl) h
theorem rc_bytes_tuple (b : Array UInt8) (t : Tok) {l : Addr} {items : Array Value} (hl : s.heap.IsTuple l items) (hu : A.units < cLine) : RcAt A s (.bytes b t) (.ref l) false := fun prog w E Q h => by
  obtain ⟨⟨cls, dd, data, sl⟩, ho, hc, n, hd⟩ := id hl
  simp only at hc hd
  subst hc hd
  exact rc_eq_decline_or (k := false) (typeIs_bytes s b t) ⟨_, ho, rfl⟩ (by decide) F.sub_tuple_bytes FB.slot_bytes_eq F.slot_tuple_eq_refl
    (fun _ hq => call_meets FB.slot_bytes_eq (typeIs_bytes s b t) FB.entry_bytes_eq (FB.args_bytes_eq_2 _ _) (bytes_declines_at b t l "tuple" F.sub_tuple_bytes items n dd sl) ⟨ho, hq⟩)
    (fun _ hq => call_meets F.slot_tuple_eq_refl ⟨_, ho, rfl⟩ F.entry_tuple_eq (F.args_tuple_eq_2 _ _) (tuple_declines_bytes l items n dd sl b t) ⟨ho, hq⟩)
    (fun _ hq => wpAny_of_eq (rfl : isSame (.bytes b t) (.ref l) = pure false) hq) (.inr hu) h
theorem rc_tuple_bytes (b : Array UInt8) (t : Tok) {l : Addr} {items : Array Value} (hl : s.heap.IsTuple l items) (hu : A.units < cLine) : RcAt A s (.ref l) (.bytes b t) false := fun prog w E Q h => by
  obtain ⟨⟨cls, dd, data, sl⟩, ho, hc, n, hd⟩ := id hl
  simp only at hc hd
  subst hc hd
  exact rc_eq_decline_or (k := false) ⟨_, ho, rfl⟩ (typeIs_bytes s b t) (by decide) F.sub_bytes_tuple F.slot_tuple_eq slot_bytes_refl
    (fun _ hq => call_meets F.slot_tuple_eq ⟨_, ho, rfl⟩ F.entry_tuple_eq (F.args_tuple_eq_2 _ _) (tuple_declines_bytes l items n dd sl b t) ⟨ho, hq⟩)
    (fun _ hq => call_meets slot_bytes_refl (typeIs_bytes s b t) FB.entry_bytes_eq (FB.args_bytes_eq_2 _ _) (bytes_declines_at b t l "tuple" F.sub_tuple_bytes items n dd sl) ⟨ho, hq⟩)
    (fun _ hq => wpAny_of_eq (rfl : isSame (.ref l) (.bytes b t) = pure false) hq) (.inr hu) h
theorem rc_bytes_list (b : Array UInt8) (t : Tok) {l : Addr} {items : Array Value} (hl : s.heap.IsList l items) (hu : A.units < cLine) : RcAt A s (.bytes b t) (.ref l) false := fun prog w E Q h => by
  obtain ⟨⟨cls, dd, data, sl⟩, ho, hc, n, hd⟩ := id hl
  simp only at hc hd
  subst hc hd
  exact rc_eq_decline_or (k := false) (typeIs_bytes s b t) ⟨_, ho, rfl⟩ (by decide) F.sub_list_bytes FB.slot_bytes_eq F.slot_list_eq_refl
    (fun _ hq => call_meets FB.slot_bytes_eq (typeIs_bytes s b t) FB.entry_bytes_eq (FB.args_bytes_eq_2 _ _) (bytes_declines_at b t l "list" F.sub_list_bytes items n dd sl) ⟨ho, hq⟩)
    (fun _ hq => call_meets F.slot_list_eq_refl ⟨_, ho, rfl⟩ F.entry_list_eq (F.args_list_eq_2 _ _) (list_declines_bytes l items n dd sl b t) ⟨ho, hq⟩)
    (fun _ hq => wpAny_of_eq (rfl : isSame (.bytes b t) (.ref l) = pure false) hq) (.inr hu) h
theorem rc_list_bytes (b : Array UInt8) (t : Tok) {l : Addr} {items : Array Value} (hl : s.heap.IsList l items) (hu : A.units < cLine) : RcAt A s (.ref l) (.bytes b t) false := fun prog w E Q h => by
  obtain ⟨⟨cls, dd, data, sl⟩, ho, hc, n, hd⟩ := id hl
  simp only at hc hd
  subst hc hd
  exact rc_eq_decline_or (k := false) ⟨_, ho, rfl⟩ (typeIs_bytes s b t) (by decide) F.sub_bytes_list F.slot_list_eq slot_bytes_refl
    (fun _ hq => call_meets F.slot_list_eq ⟨_, ho, rfl⟩ F.entry_list_eq (F.args_list_eq_2 _ _) (list_declines_bytes l items n dd sl b t) ⟨ho, hq⟩)
    (fun _ hq => call_meets slot_bytes_refl (typeIs_bytes s b t) FB.entry_bytes_eq (FB.args_bytes_eq_2 _ _) (bytes_declines_at b t l "list" F.sub_list_bytes items n dd sl) ⟨ho, hq⟩)
    (fun _ hq => wpAny_of_eq (rfl : isSame (.ref l) (.bytes b t) = pure false) hq) (.inr hu) h
theorem rc_bytes_bytes (b c : Array UInt8) (t u : Tok) : RcAt A s (.bytes b t) (.bytes c u) (b.toList == c.toList) := fun prog w E Q h => eq_bytes h
theorem eq_bytes_bytes (b c : Array UInt8) (t u : Tok) : EqAt A s (.bytes b t) (.bytes c u) (b.toList == c.toList) := fun prog w E Q hq => by
  unfold eqBool
  refine wpAny_holding ?_
  refine wpAny_ite_split (fun hab => ?_) (fun _ => ?_)
  · have e := eq_of_beq hab
    injection e with e1 e2
    subst e1
    exact wpAny_bind (wpAny_rule (wpAny_pure (by simpa using hq)))
  · exact wpAny_bind (rc_bytes_bytes b c t u prog w E _ (wpAny_truthy_bool hq))
theorem eq_bytes_str {prog : Program} {w : World} {A : Around} {E : Value → Shared → Prop} {s : Shared} {b : Array UInt8} {t u : Tok} {x : PySem.Str} {Q : Value → Shared → Prop} (h : Q (.bool false) s) :
    wpAny (model prog w) A (compareOp .Eq (.bytes b t) (.str x u)) Q E s := cmp_ofEq (rc_bytes_str b t x u prog w E Q h)
end
end Mine
end
section
open PySem PySem.W PyProof.Rows
namespace Mine
set_option maxRecDepth 100000
open PySem.SeqAt
mutual
inductive Rd (h : Heap) : Value → Dt → Prop
  | none : Rd h Value.none Dt.none
  | bool (b : Bool) : Rd h (Value.bool b) (Dt.bool b)
  | int (i : Int) (t : Tok) : Rd h (Value.int i t) (Dt.int i)
  | str (x : Str) (t : Tok) : Rd h (Value.str x t) (Dt.str x)
  | bytes (b : List UInt8) (t : Tok) : Rd h (Value.bytes b.toArray t) (Dt.bytes b)
  | tup {a : Addr} {vs : List Value} {ds : List Dt} : h.IsTuple a vs.toArray → RdAll h vs ds → Rd h (Value.ref a) (Dt.tup ds)
  | lst {a : Addr} {vs : List Value} {ds : List Dt} : h.IsList a vs.toArray → RdAll h vs ds → Rd h (Value.ref a) (Dt.lst ds)
inductive RdAll (h : Heap) : List Value → List Dt → Prop
  | nil : RdAll h [] []
  | cons {v : Value} {vs : List Value} {d : Dt} {ds : List Dt} : Rd h v d → RdAll h vs ds → RdAll h (v :: vs) (d :: ds)
end
/-- k: no bool within; else no int within; never a bad one; not deeper than n -/
def okD (k : Bool) : Nat → Dt → Bool
  | _, .none => true
  | _, .bool _ => !k
  | _, .int _ => k
  | _, .str _ => true
  | _, .bytes _ => true
  | n + 1, .tup ds => ds.all (okD k n)
  | n + 1, .lst ds => ds.all (okD k n)
  | _, _ => false
section
variable {h₀ h : Heap} {L : Addr} {news : Led} {k : Bool}
mutual
theorem rd_of (N : News h₀ L h news) : ∀ {v : Value} {d : Dt} (n : Nat), DIn news v d → okD k n d = true → Rd h v d
  | _, _, _, .none, _ => .none
  | _, _, _, .bool b, _ => .bool b
  | _, _, _, .int i t, _ => .int i t
  | _, _, _, .str x t, _ => .str x t
  | _, _, _, .bytes b t, _ => .bytes b t
  | _, _, 0, .tup _ _, hk => by simp [okD] at hk
  | _, _, 0, .lst _ _, hk => by simp [okD] at hk
  | _, _, n + 1, .tup hm r, hk => .tup ⟨_, N.get hm, rfl, _, rfl⟩ (rd_all N n r (by simpa [okD] using hk))
  | _, _, n + 1, .lst hm r, hk => .lst ⟨_, N.get hm, rfl, _, rfl⟩ (rd_all N n r (by simpa [okD] using hk))
  | _, _, n, .bad _ _ _ _, hk => by cases n <;> simp [okD] at hk
theorem rd_all (N : News h₀ L h news) : ∀ {vs : List Value} {ds : List Dt} (n : Nat), DAll news vs ds → (∀ d ∈ ds, okD k n d = true) → RdAll h vs ds
  | _, _, _, .nil, _ => .nil
  | _, _, n, .cons hd r, hk => .cons (rd_of N n hd (hk _ (.head _))) (rd_all N n r fun d hm => hk d (.tail _ hm))
end
end
theorem RdAll.length {h : Heap} : ∀ {vs : List Value} {ds : List Dt}, RdAll h vs ds → vs.length = ds.length
  | _, _, .nil => rfl
  | _, _, .cons _ r => by simp [r.length]
theorem RdAll.get {h : Heap} : ∀ {vs : List Value} {ds : List Dt}, RdAll h vs ds → ∀ (j : Nat) (h1 : j < vs.length) (h2 : j < ds.length), Rd h vs[j] ds[j]
  | _, _, .cons hd r, 0, _, _ => hd
  | _, _, .cons hd r, j + 1, h1, h2 => r.get j (by simpa using h1) (by simpa using h2)
theorem tuple_items {h : Heap} {a : Addr} {x y : Array Value} (hx : h.IsTuple a x) (hy : h.IsTuple a y) : x = y := by
  obtain ⟨o, ho, _, n, hd⟩ := hx
  obtain ⟨o', ho', _, n', hd'⟩ := hy
  rw [ho] at ho'
  cases ho'
  rw [hd] at hd'
  injection hd'
theorem list_items {h : Heap} {a : Addr} {x y : Array Value} (hx : h.IsList a x) (hy : h.IsList a y) : x = y := by
  obtain ⟨o, ho, _, n, hd⟩ := hx
  obtain ⟨o', ho', _, n', hd'⟩ := hy
  rw [ho] at ho'
  cases ho'
  rw [hd] at hd'
  injection hd'
theorem not_both {h : Heap} {a : Addr} {x y : Array Value} (hx : h.IsTuple a x) (hy : h.IsList a y) : False := by
  obtain ⟨o, ho, hc, _⟩ := hx
  obtain ⟨o', ho', hc', _⟩ := hy
  rw [ho] at ho'
  cases ho'
  rw [hc] at hc'
  injection hc' with e
  exact absurd e (by decide)
mutual
theorem Rd.inj {h : Heap} : ∀ {v : Value} {d e : Dt}, Rd h v d → Rd h v e → d = e
  | _, _, _, .none, y => by cases y; rfl
  | _, _, _, .bool b, y => by cases y; rfl
  | _, _, _, .int i t, y => by cases y; rfl
  | _, _, _, .str x t, y => by cases y; rfl
  | _, _, _, .bytes b t, y => by
    generalize hv : Value.bytes b.toArray t = v at y
    cases y with
    | bytes b' t' => injection hv with e1 _; rw [show b = b' from by simpa using e1]
    | _ => cases hv
  | _, _, _, .tup ht r, y => by
    cases y with
    | tup ht' r' =>
      have := tuple_items ht ht'
      have e := congrArg Array.toList this
      simp only at e
      subst e
      rw [RdAll.inj r r']
    | lst ht' r' => exact (not_both ht ht').elim
  | _, _, _, .lst ht r, y => by
    cases y with
    | lst ht' r' =>
      have := list_items ht ht'
      have e := congrArg Array.toList this
      simp only at e
      subst e
      rw [RdAll.inj r r']
    | tup ht' r' => exact (not_both ht' ht).elim
theorem RdAll.inj {h : Heap} : ∀ {vs : List Value} {ds es : List Dt}, RdAll h vs ds → RdAll h vs es → ds = es
  | _, _, _, .nil, y => by cases y; rfl
  | _, _, _, .cons hd r, y => by
    cases y with
    | cons hd' r' => rw [Rd.inj hd hd', RdAll.inj r r']
end
section
open Classical
variable {A : Around} {s : Shared}
theorem all_range_eq (ds es : List Dt) : ((List.range (min ds.length es.length)).all (fun j => decide (ds[j]? = es[j]?)) && ds.length == es.length) = decide (ds = es) := by
  by_cases e : ds = es
  · subst e
    simp
  · rw [decide_eq_false e, Bool.and_eq_false_iff]
    by_cases hl : ds.length = es.length
    · left
      rw [List.all_eq_false]
      apply Classical.byContradiction
      intro hc
      apply e
      apply List.ext_getElem?
      intro i
      by_cases hi : i < ds.length
      · apply Classical.byContradiction
        intro hne
        exact hc ⟨i, by simp; omega, by simpa using hne⟩
      · rw [List.getElem?_eq_none (by omega), List.getElem?_eq_none (by omega)]
    · right
      simpa using hl
theorem refs_eq {a b : Addr} {d e : Dt} (x : Rd s.heap (.ref a) d) (y : Rd s.heap (.ref b) e) (h : RcAt A s (.ref a) (.ref b) (decide (d = e))) : EqAt A s (.ref a) (.ref b) (decide (d = e)) := by
  by_cases hab : a = b
  · subst hab
    rw [decide_eq_true (x.inj y)]
    exact EqAt.same _
  · exact EqAt.of_refs hab h
theorem ff_of {A : Around} {v w : Value} {d e : Dt} (h : d ≠ e) (z : RcAt A s v w false ∧ EqAt A s v w false) : RcAt A s v w (decide (d = e)) ∧ EqAt A s v w (decide (d = e)) := by
  rw [decide_eq_false h]; exact z
theorem data_eq (k : Bool) : ∀ (n : Nat) (A : Around) (v w : Value) (d e : Dt), okD k n d = true → okD k n e = true → A.units + n < cLine → Rd s.heap v d → Rd s.heap w e → RcAt A s v w (decide (d = e)) ∧ EqAt A s v w (decide (d = e)) := by
  intro n
  induction n with
  | zero =>
    intro A v w d e h1 h2 hu x y
    have hu' : A.units < cLine := by omega
    cases x with
    | none  =>
      cases y with
      | none  =>
        exact ⟨by rw [decide_eq_true rfl]; exact .none_none, by rw [decide_eq_true rfl]; exact .same _⟩
      | bool b2 =>
        exact ff_of (by intro h; cases h) ⟨.none_bool  b2, .none_bool  b2⟩
      | int i2 t2 =>
        exact ff_of (by intro h; cases h) ⟨.none_int  i2 t2, .none_int  i2 t2⟩
      | str x2 t2 =>
        exact ff_of (by intro h; cases h) ⟨.none_str  x2 t2, .none_str  x2 t2⟩
      | bytes b2 t2 =>
        exact ff_of (by intro h; cases h) ⟨rc_none_bytes b2.toArray t2 , eqAt_of rfl nofun (rc_none_bytes b2.toArray t2 )⟩
      | tup ht2 hr2 =>
        simp [okD] at h2
      | lst ht2 hr2 =>
        simp [okD] at h2
    | bool b1 =>
      cases y with
      | none  =>
        exact ff_of (by intro h; cases h) ⟨.bool_none b1 , .bool_none b1 ⟩
      | bool b2 =>
        have e : decide (Dt.bool b1 = Dt.bool b2) = (b1 == b2) := by cases b1 <;> cases b2 <;> simp
        rw [e]; exact ⟨.bool_bool b1 b2, .bool_bool b1 b2⟩
      | int i2 t2 =>
        simp [okD] at h1 h2; rw [h1] at h2; cases h2
      | str x2 t2 =>
        exact ff_of (by intro h; cases h) ⟨.bool_str b1 x2 t2, .bool_str b1 x2 t2⟩
      | bytes b2 t2 =>
        exact ff_of (by intro h; cases h) ⟨rc_bool_bytes b2.toArray t2 b1, eqAt_of rfl nofun (rc_bool_bytes b2.toArray t2 b1)⟩
      | tup ht2 hr2 =>
        simp [okD] at h2
      | lst ht2 hr2 =>
        simp [okD] at h2
    | int i1 t1 =>
      cases y with
      | none  =>
        exact ff_of (by intro h; cases h) ⟨.int_none i1 t1 , .int_none i1 t1 ⟩
      | bool b2 =>
        simp [okD] at h1 h2; rw [h1] at h2; cases h2
      | int i2 t2 =>
        have e : decide (Dt.int i1 = Dt.int i2) = (i1 == i2) := by by_cases h : i1 = i2 <;> simp [h]
        rw [e]; exact ⟨.int_int i1 t1 i2 t2, .int_int i1 t1 i2 t2⟩
      | str x2 t2 =>
        exact ff_of (by intro h; cases h) ⟨.int_str i1 t1 x2 t2, .int_str i1 t1 x2 t2⟩
      | bytes b2 t2 =>
        exact ff_of (by intro h; cases h) ⟨rc_int_bytes b2.toArray t2 i1 t1, eqAt_of rfl nofun (rc_int_bytes b2.toArray t2 i1 t1)⟩
      | tup ht2 hr2 =>
        simp [okD] at h2
      | lst ht2 hr2 =>
        simp [okD] at h2
    | str x1 t1 =>
      cases y with
      | none  =>
        exact ff_of (by intro h; cases h) ⟨.str_none x1 t1 , .str_none x1 t1 ⟩
      | bool b2 =>
        exact ff_of (by intro h; cases h) ⟨.str_bool x1 t1 b2, .str_bool x1 t1 b2⟩
      | int i2 t2 =>
        exact ff_of (by intro h; cases h) ⟨.str_int x1 t1 i2 t2, .str_int x1 t1 i2 t2⟩
      | str x2 t2 =>
        have e : decide (Dt.str x1 = Dt.str x2) = (x1 == x2) := by by_cases h : x1 = x2 <;> simp [h]
        rw [e]; exact ⟨.str_str x1 t1 x2 t2, .str_str x1 t1 x2 t2⟩
      | bytes b2 t2 =>
        exact ff_of (by intro h; cases h) ⟨rc_str_bytes b2.toArray t2 x1 t1, eqAt_of rfl nofun (rc_str_bytes b2.toArray t2 x1 t1)⟩
      | tup ht2 hr2 =>
        simp [okD] at h2
      | lst ht2 hr2 =>
        simp [okD] at h2
    | bytes b1 t1 =>
      cases y with
      | none  =>
        exact ff_of (by intro h; cases h) ⟨rc_bytes_none b1.toArray t1 , eqAt_of rfl nofun (rc_bytes_none b1.toArray t1 )⟩
      | bool b2 =>
        exact ff_of (by intro h; cases h) ⟨rc_bytes_bool b1.toArray t1 b2, eqAt_of rfl nofun (rc_bytes_bool b1.toArray t1 b2)⟩
      | int i2 t2 =>
        exact ff_of (by intro h; cases h) ⟨rc_bytes_int b1.toArray t1 i2 t2, eqAt_of rfl nofun (rc_bytes_int b1.toArray t1 i2 t2)⟩
      | str x2 t2 =>
        exact ff_of (by intro h; cases h) ⟨rc_bytes_str b1.toArray t1 x2 t2, eqAt_of rfl nofun (rc_bytes_str b1.toArray t1 x2 t2)⟩
      | bytes b2 t2 =>
        have e : decide (Dt.bytes b1 = Dt.bytes b2) = (b1.toArray.toList == b2.toArray.toList) := by by_cases h : b1 = b2 <;> simp [h]
        rw [e]; exact ⟨rc_bytes_bytes _ _ t1 t2, eq_bytes_bytes _ _ t1 t2⟩
      | tup ht2 hr2 =>
        simp [okD] at h2
      | lst ht2 hr2 =>
        simp [okD] at h2
    | tup ht hr =>
      simp [okD] at h1
    | lst ht hr =>
      simp [okD] at h1
  | succ n ih =>
    intro A v w d e h1 h2 hu x y
    have hu' : A.units < cLine := by omega
    cases x with
    | none  =>
      cases y with
      | none  =>
        exact ⟨by rw [decide_eq_true rfl]; exact .none_none, by rw [decide_eq_true rfl]; exact .same _⟩
      | bool b2 =>
        exact ff_of (by intro h; cases h) ⟨.none_bool  b2, .none_bool  b2⟩
      | int i2 t2 =>
        exact ff_of (by intro h; cases h) ⟨.none_int  i2 t2, .none_int  i2 t2⟩
      | str x2 t2 =>
        exact ff_of (by intro h; cases h) ⟨.none_str  x2 t2, .none_str  x2 t2⟩
      | bytes b2 t2 =>
        exact ff_of (by intro h; cases h) ⟨rc_none_bytes b2.toArray t2 , eqAt_of rfl nofun (rc_none_bytes b2.toArray t2 )⟩
      | tup ht2 hr2 =>
        exact ff_of (by intro h; cases h) ⟨.none_tuple  ht2 hu', .none_tuple  ht2 hu'⟩
      | lst ht2 hr2 =>
        exact ff_of (by intro h; cases h) ⟨.none_list  ht2 hu', .none_list  ht2 hu'⟩
    | bool b1 =>
      cases y with
      | none  =>
        exact ff_of (by intro h; cases h) ⟨.bool_none b1 , .bool_none b1 ⟩
      | bool b2 =>
        have e : decide (Dt.bool b1 = Dt.bool b2) = (b1 == b2) := by cases b1 <;> cases b2 <;> simp
        rw [e]; exact ⟨.bool_bool b1 b2, .bool_bool b1 b2⟩
      | int i2 t2 =>
        simp [okD] at h1 h2; rw [h1] at h2; cases h2
      | str x2 t2 =>
        exact ff_of (by intro h; cases h) ⟨.bool_str b1 x2 t2, .bool_str b1 x2 t2⟩
      | bytes b2 t2 =>
        exact ff_of (by intro h; cases h) ⟨rc_bool_bytes b2.toArray t2 b1, eqAt_of rfl nofun (rc_bool_bytes b2.toArray t2 b1)⟩
      | tup ht2 hr2 =>
        exact ff_of (by intro h; cases h) ⟨.bool_tuple b1 ht2 hu', .bool_tuple b1 ht2 hu'⟩
      | lst ht2 hr2 =>
        exact ff_of (by intro h; cases h) ⟨.bool_list b1 ht2 hu', .bool_list b1 ht2 hu'⟩
    | int i1 t1 =>
      cases y with
      | none  =>
        exact ff_of (by intro h; cases h) ⟨.int_none i1 t1 , .int_none i1 t1 ⟩
      | bool b2 =>
        simp [okD] at h1 h2; rw [h1] at h2; cases h2
      | int i2 t2 =>
        have e : decide (Dt.int i1 = Dt.int i2) = (i1 == i2) := by by_cases h : i1 = i2 <;> simp [h]
        rw [e]; exact ⟨.int_int i1 t1 i2 t2, .int_int i1 t1 i2 t2⟩
      | str x2 t2 =>
        exact ff_of (by intro h; cases h) ⟨.int_str i1 t1 x2 t2, .int_str i1 t1 x2 t2⟩
      | bytes b2 t2 =>
        exact ff_of (by intro h; cases h) ⟨rc_int_bytes b2.toArray t2 i1 t1, eqAt_of rfl nofun (rc_int_bytes b2.toArray t2 i1 t1)⟩
      | tup ht2 hr2 =>
        exact ff_of (by intro h; cases h) ⟨.int_tuple i1 t1 ht2 hu', .int_tuple i1 t1 ht2 hu'⟩
      | lst ht2 hr2 =>
        exact ff_of (by intro h; cases h) ⟨.int_list i1 t1 ht2 hu', .int_list i1 t1 ht2 hu'⟩
    | str x1 t1 =>
      cases y with
      | none  =>
        exact ff_of (by intro h; cases h) ⟨.str_none x1 t1 , .str_none x1 t1 ⟩
      | bool b2 =>
        exact ff_of (by intro h; cases h) ⟨.str_bool x1 t1 b2, .str_bool x1 t1 b2⟩
      | int i2 t2 =>
        exact ff_of (by intro h; cases h) ⟨.str_int x1 t1 i2 t2, .str_int x1 t1 i2 t2⟩
      | str x2 t2 =>
        have e : decide (Dt.str x1 = Dt.str x2) = (x1 == x2) := by by_cases h : x1 = x2 <;> simp [h]
        rw [e]; exact ⟨.str_str x1 t1 x2 t2, .str_str x1 t1 x2 t2⟩
      | bytes b2 t2 =>
        exact ff_of (by intro h; cases h) ⟨rc_str_bytes b2.toArray t2 x1 t1, eqAt_of rfl nofun (rc_str_bytes b2.toArray t2 x1 t1)⟩
      | tup ht2 hr2 =>
        exact ff_of (by intro h; cases h) ⟨.str_tuple x1 t1 ht2 hu', .str_tuple x1 t1 ht2 hu'⟩
      | lst ht2 hr2 =>
        exact ff_of (by intro h; cases h) ⟨.str_list x1 t1 ht2 hu', .str_list x1 t1 ht2 hu'⟩
    | bytes b1 t1 =>
      cases y with
      | none  =>
        exact ff_of (by intro h; cases h) ⟨rc_bytes_none b1.toArray t1 , eqAt_of rfl nofun (rc_bytes_none b1.toArray t1 )⟩
      | bool b2 =>
        exact ff_of (by intro h; cases h) ⟨rc_bytes_bool b1.toArray t1 b2, eqAt_of rfl nofun (rc_bytes_bool b1.toArray t1 b2)⟩
      | int i2 t2 =>
        exact ff_of (by intro h; cases h) ⟨rc_bytes_int b1.toArray t1 i2 t2, eqAt_of rfl nofun (rc_bytes_int b1.toArray t1 i2 t2)⟩
      | str x2 t2 =>
        exact ff_of (by intro h; cases h) ⟨rc_bytes_str b1.toArray t1 x2 t2, eqAt_of rfl nofun (rc_bytes_str b1.toArray t1 x2 t2)⟩
      | bytes b2 t2 =>
        have e : decide (Dt.bytes b1 = Dt.bytes b2) = (b1.toArray.toList == b2.toArray.toList) := by by_cases h : b1 = b2 <;> simp [h]
        rw [e]; exact ⟨rc_bytes_bytes _ _ t1 t2, eq_bytes_bytes _ _ t1 t2⟩
      | tup ht2 hr2 =>
        exact ff_of (by intro h; cases h) ⟨rc_bytes_tuple b1.toArray t1 ht2 hu', eqAt_of rfl nofun (rc_bytes_tuple b1.toArray t1 ht2 hu')⟩
      | lst ht2 hr2 =>
        exact ff_of (by intro h; cases h) ⟨rc_bytes_list b1.toArray t1 ht2 hu', eqAt_of rfl nofun (rc_bytes_list b1.toArray t1 ht2 hu')⟩
    | tup ht hr =>
      cases y with
      | none  =>
        exact ff_of (by intro h; cases h) ⟨.tuple_none  ht hu', .tuple_none  ht hu'⟩
      | bool b2 =>
        exact ff_of (by intro h; cases h) ⟨.tuple_bool b2 ht hu', .tuple_bool b2 ht hu'⟩
      | int i2 t2 =>
        exact ff_of (by intro h; cases h) ⟨.tuple_int i2 t2 ht hu', .tuple_int i2 t2 ht hu'⟩
      | str x2 t2 =>
        exact ff_of (by intro h; cases h) ⟨.tuple_str x2 t2 ht hu', .tuple_str x2 t2 ht hu'⟩
      | bytes b2 t2 =>
        exact ff_of (by intro h; cases h) ⟨rc_tuple_bytes b2.toArray t2 ht hu', eqAt_of rfl nofun (rc_tuple_bytes b2.toArray t2 ht hu')⟩
      | tup ht2 hr2 =>
        rename_i a1 vs1 ds1 a2 vs2 ds2
        have hr' : RcAt A s (.ref a1) (.ref a2) (decide (Dt.tup ds1 = Dt.tup ds2)) := by
          have e : decide (Dt.tup ds1 = Dt.tup ds2) = ((List.range (min vs1.toArray.size vs2.toArray.size)).all (fun j => decide (ds1[j]? = ds2[j]?)) && vs1.toArray.size == vs2.toArray.size) := by
            rw [List.size_toArray, List.size_toArray, hr.length, hr2.length, all_range_eq]
            by_cases h : ds1 = ds2 <;> simp [h]
          rw [e]
          refine RcAt.tuples ht ht2 hu' fun j j1 j2 => ?_
          simp only [List.size_toArray] at j1 j2
          have l1 : j < ds1.length := by rw [← hr.length]; exact j1
          have l2 : j < ds2.length := by rw [← hr2.length]; exact j2
          have z := (ih A.in1 _ _ _ _ (List.all_eq_true.mp h1 _ (List.getElem_mem l1)) (List.all_eq_true.mp h2 _ (List.getElem_mem l2)) (by simp only [Around.in1_units]; omega) (hr.get j j1 l1) (hr2.get j j2 l2)).2
          have e2 : decide (ds1[j]? = ds2[j]?) = decide (ds1[j] = ds2[j]) := by rw [List.getElem?_eq_getElem l1, List.getElem?_eq_getElem l2]; simp
          rw [e2]
          simpa using z
        exact ⟨hr', refs_eq (.tup ht hr) (.tup ht2 hr2) hr'⟩
      | lst ht2 hr2 =>
        exact ff_of (by intro h; cases h) ⟨.tuple_list ht ht2 hu', .tuple_list ht ht2 hu'⟩
    | lst ht hr =>
      cases y with
      | none  =>
        exact ff_of (by intro h; cases h) ⟨.list_none  ht hu', .list_none  ht hu'⟩
      | bool b2 =>
        exact ff_of (by intro h; cases h) ⟨.list_bool b2 ht hu', .list_bool b2 ht hu'⟩
      | int i2 t2 =>
        exact ff_of (by intro h; cases h) ⟨.list_int i2 t2 ht hu', .list_int i2 t2 ht hu'⟩
      | str x2 t2 =>
        exact ff_of (by intro h; cases h) ⟨.list_str x2 t2 ht hu', .list_str x2 t2 ht hu'⟩
      | bytes b2 t2 =>
        exact ff_of (by intro h; cases h) ⟨rc_list_bytes b2.toArray t2 ht hu', eqAt_of rfl nofun (rc_list_bytes b2.toArray t2 ht hu')⟩
      | tup ht2 hr2 =>
        exact ff_of (by intro h; cases h) ⟨.list_tuple ht ht2 hu', .list_tuple ht ht2 hu'⟩
      | lst ht2 hr2 =>
        rename_i a1 vs1 ds1 a2 vs2 ds2
        have hr' : RcAt A s (.ref a1) (.ref a2) (decide (Dt.lst ds1 = Dt.lst ds2)) := by
          by_cases hsz : vs1.toArray.size = vs2.toArray.size
          · have e : decide (Dt.lst ds1 = Dt.lst ds2) = ((List.range vs1.toArray.size).all (fun j => decide (ds1[j]? = ds2[j]?))) := by
              have z := all_range_eq ds1 ds2
              simp only [List.size_toArray] at hsz ⊢
              rw [hr.length, hr2.length] at hsz
              rw [← hsz, Nat.min_self, beq_self_eq_true, Bool.and_true] at z
              rw [hr.length, z]
              by_cases h : ds1 = ds2 <;> simp [h]
            rw [e]
            refine RcAt.lists ht ht2 hsz hu' fun j j1 j2 => ?_
            simp only [List.size_toArray] at j1 j2
            have l1 : j < ds1.length := by rw [← hr.length]; exact j1
            have l2 : j < ds2.length := by rw [← hr2.length]; exact j2
            have z := (ih A.in1 _ _ _ _ (List.all_eq_true.mp h1 _ (List.getElem_mem l1)) (List.all_eq_true.mp h2 _ (List.getElem_mem l2)) (by simp only [Around.in1_units]; omega) (hr.get j j1 l1) (hr2.get j j2 l2)).2
            have e2 : decide (ds1[j]? = ds2[j]?) = decide (ds1[j] = ds2[j]) := by rw [List.getElem?_eq_getElem l1, List.getElem?_eq_getElem l2]; simp
            rw [e2]
            simpa using z
          · have e : decide (Dt.lst ds1 = Dt.lst ds2) = false := decide_eq_false fun h => hsz (by
              injection h with h
              simp only [List.size_toArray]
              rw [hr.length, hr2.length, h])
            rw [e]
            exact RcAt.lists_lengths ht ht2 (by simpa using hsz) hu'
        exact ⟨hr', refs_eq (.lst ht hr) (.lst ht2 hr2) hr'⟩
end
end Mine
end
section
open PySem PySem.W PySem.Spec PySem.Calls PyProof.Rows
namespace Mine
set_option maxRecDepth 100000
/-- the entries of a reference's dict -/
def PRd (es : List DictEntry) (o : List UInt8) (db : Dt) (wk : Bool) : Prop :=
  (∃ t, getL "oid" es = some (some (.bytes o.toArray t))) ∧
  ((∃ b u, db = .str b ∧ getL "database_name" es = some (some (.str b u))) ∨ (db = .none ∧ getL "database_name" es = some none)) ∧
  getL "weak" es = some (if wk then some (.bool true) else none) ∧ getL "_cmp" es = some none
def DbD (db : Dt) : Prop := db = .none ∨ ∃ b, db = .str b
theorem IsPR.prd {news : Led} {x : Addr} {dv : Value} {o : List UInt8} {db : Dt} {wk : Bool} (h : IsPR news x dv o db wk) (hdb : DbD db) :
    ∃ d es n, (x, instObj 109 d) ∈ news ∧ (d, dictOf es n) ∈ news ∧ getL "data" es = some (some dv) ∧ PRd es o db wk := by
  obtain ⟨d, es, n, t, h1, h2, h3, h4, h5, h6⟩ := h
  refine ⟨d, es, n, h1, h2, h3, ⟨t, h4⟩, ?_, h6⟩
  rcases hdb with rfl | ⟨b, rfl⟩
  · exact .inr ⟨rfl, h5⟩
  · obtain ⟨u, hu⟩ := h5
    exact .inl ⟨b, u, rfl, hu⟩
/-- what stands for a database -/
inductive DbV : Value → Dt → Prop
  | none : DbV .none .none
  | str (b : Str) (t : Tok) : DbV (.str b t) (.str b)
section
variable {prog : Program} {w : World} {A : Around} {E : Value → Shared → Prop} {s : Shared} {K : Frag} {x C L : Addr} {h₀ : Heap} {m : Str → Option Value} {ox : Obj} {es : List DictEntry} {n : Nat} {o : List UInt8} {db : Dt} {wk : Bool}
theorem attr_oid {expr : Bool} {Q : Value → Shared → Prop} {attr : Option Value} (F : Fr h₀ L s.heap m) (X₀ : K.In h₀) (I : InstAt s.heap x ox C (some (dictOf es n))) (P : PRd es o db wk) (hg : plainGet K C "oid" = true) (hh : hasDictIn K C = true)
    (ha : findIn K (.ref C) "oid" = some attr) (hn : noGet K attr = true) (h : ∀ t, Q (.bytes o.toArray t) { s with toks := s.toks + 1 }) :
    wpAny (model prog w) A (getAttr (.ref x) "oid" expr) Q E s := by
  obtain ⟨t, ht⟩ := P.1
  exact get_own F X₀ I hg hh ha hn ht rfl (h t)
theorem attr_db {expr : Bool} {Q : Value → Shared → Prop} (F : Fr h₀ L s.heap m) (X₀ : K.In h₀) (I : InstAt s.heap x ox C (some (dictOf es n))) (P : PRd es o db wk) (hg : plainGet K C "database_name" = true) (hh : hasDictIn K C = true)
    (ha : findIn K (.ref C) "database_name" = some (some .none)) (hn : noGet K (some .none) = true) (hn2 : specialIn K .none "__get__" = some none) (h : ∀ v, DbV v db → Q v { s with toks := s.toks + 1 }) :
    wpAny (model prog w) A (getAttr (.ref x) "database_name" expr) Q E s := by
  rcases P.2.1 with ⟨b, u, rfl, hu⟩ | ⟨rfl, hu⟩
  · exact get_own F X₀ I hg hh ha hn hu rfl (h _ (.str b u))
  · exact get_cls F X₀ I hg hh ha hn2 rfl (by decide +kernel) hu (h _ .none)
theorem attr_weak {expr : Bool} {Q : Value → Shared → Prop} (F : Fr h₀ L s.heap m) (X₀ : K.In h₀) (I : InstAt s.heap x ox C (some (dictOf es n))) (P : PRd es o db wk) (hg : plainGet K C "weak" = true) (hh : hasDictIn K C = true)
    (ha : findIn K (.ref C) "weak" = some (some (.bool false))) (hn : noGet K (some (.bool false)) = true) (hn2 : specialIn K (.bool false) "__get__" = some none) (h : Q (.bool wk) { s with toks := s.toks + 1 }) :
    wpAny (model prog w) A (getAttr (.ref x) "weak" expr) Q E s := by
  cases wk with
  | true => exact get_own F X₀ I hg hh ha hn P.2.2.1 rfl h
  | false => exact get_cls F X₀ I hg hh ha hn2 rfl (by decide +kernel) P.2.2.1 h
theorem eq_oid {o o' : List UInt8} {t u : Tok} {Q : Value → Shared → Prop} (h : Q (.bool (decide (o = o'))) s) : wpAny (model prog w) A (compareOp .Eq (.bytes o.toArray t) (.bytes o'.toArray u)) Q E s := by
  refine eq_bytes ?_
  have e : (o.toArray.toList == o'.toArray.toList) = decide (o = o') := by by_cases h : o = o' <;> simp [h]
  rw [e]; exact h
end
section
variable {prog : Program} {w : World} {A : Around} {E : Value → Shared → Prop} {s : Shared}
theorem eq_oid_same {o : List UInt8} {t u : Tok} {Q : Value → Shared → Prop} (h : Q (.bool true) s) : wpAny (model prog w) A (compareOp .Eq (.bytes o.toArray t) (.bytes o.toArray u)) Q E s :=
  eq_oid (by rw [decide_eq_true rfl]; exact h)
theorem eq_oid_ne {o o' : List UInt8} {t u : Tok} {Q : Value → Shared → Prop} (hne : o ≠ o') (h : Q (.bool false) s) : wpAny (model prog w) A (compareOp .Eq (.bytes o.toArray t) (.bytes o'.toArray u)) Q E s :=
  eq_oid (by rw [decide_eq_false hne]; exact h)
open scoped Classical in
theorem eq_db {d e : Dt} {v u : Value} {Q : Value → Shared → Prop} (hu : A.units < cLine) (hv : DbV v d) (hw : DbV u e) (h : Q (.bool (decide (d = e))) s) : wpAny (model prog w) A (compareOp .Eq v u) Q E s := by
  have rd : ∀ {v d}, DbV v d → Rd s.heap v d ∧ okD true 0 d = true := fun h => by
    cases h with
    | none => exact ⟨.none, rfl⟩
    | str b t => exact ⟨.str b t, rfl⟩
  exact (data_eq true 0 A v u d e (rd hv).2 (rd hw).2 (by omega) (rd hv).1 (rd hw).1).1 prog w E Q h
open scoped Classical in
theorem eq_db_same {d : Dt} {v u : Value} {Q : Value → Shared → Prop} (hu : A.units < cLine) (hv : DbV v d) (hw : DbV u d) (h : Q (.bool true) s) : wpAny (model prog w) A (compareOp .Eq v u) Q E s :=
  eq_db hu hv hw (by rw [decide_eq_true rfl]; exact h)
open scoped Classical in
theorem eq_db_ne {d e : Dt} {v u : Value} {Q : Value → Shared → Prop} (hne : d ≠ e) (hu : A.units < cLine) (hv : DbV v d) (hw : DbV u e) (h : Q (.bool false) s) : wpAny (model prog w) A (compareOp .Eq v u) Q E s :=
  eq_db hu hv hw (by rw [decide_eq_false hne]; exact h)
end
/-- the contract of a call that raises ValueError -/
abbrev RClaim (rd ru : Nat) (prog : Program) (w : World) (K : Frag) (p : Program) (loose : List Str) (mean : ExcName → Option Value) (mg mb : Str → Option Value) (f : Addr) (vs : List Value) (news : Led) : Prop :=
  ∀ (dp un : Nat) (gd : Option (List Code)) (cn : Str) (cs : Scope) (a : Addr) (ccd : Value) (cl : List (Str × Addr)) (outer : List Env) (A₀ : Around) (base h₀ : Heap) (L : Addr) (m : Str → Option Value) (s : Shared) (Q E : Value → Shared → Prop),
    Below A₀ base outer h₀ → Fr h₀ L s.heap m → K.In h₀ → News h₀ L s.heap news → Top p loose mean mg mb h₀ → cs.kind = .function →
    dp + rd < recursionLimit → un + ru < cLine →
    (∀ G e h' tk', Fr h₀ L G m → GSub s.heap G (news.map fun x => x.1) → RaisedSN base G (envX cn cs L a ccd cl :: outer) e (.type "ValueError") news h' → G.UpToSlots h' → E (.ref e) { s with heap := h', toks := tk' }) →
    wpAny (model prog w) (ktrTop dp un gd cn cs L a ccd cl outer) (call (.ref f) vs) Q E s
/-- the contract of a call that makes nothing -/
abbrev VClaim (rd ru : Nat) (prog : Program) (w : World) (K : Frag) (p : Program) (loose : List Str) (mean : ExcName → Option Value) (mg mb : Str → Option Value) (f : Addr) (vs : List Value) (news : Led) (R : Value → Prop) : Prop :=
  ∀ (dp un : Nat) (gd : Option (List Code)) (cn : Str) (cs : Scope) (a : Addr) (ccd : Value) (cl : List (Str × Addr)) (outer : List Env) (A₀ : Around) (base h₀ : Heap) (L : Addr) (m : Str → Option Value) (s : Shared) (Q E : Value → Shared → Prop),
    Below A₀ base outer h₀ → Fr h₀ L s.heap m → K.In h₀ → News h₀ L s.heap news → Top p loose mean mg mb h₀ → cs.kind = .function →
    dp + rd < recursionLimit → un + ru < cLine →
    (∀ v h' tk', Fr h₀ L h' m → News h₀ L h' news → R v → Q v { s with heap := h', toks := tk' }) →
    wpAny (model prog w) (ktrTop dp un gd cn cs L a ccd cl outer) (call (.ref f) vs) Q E s
theorem fin_def {h₀ g h' H : Heap} {L L' : Addr} {m' : Str → Option Value} {sub news fin : Led} (N : News h₀ L H news) (hs : ∀ p ∈ sub, p ∈ news) (GS : GSub H g (sub.map fun x => x.1)) (F' : Fr g L' h' m') (kN : News h₀ L h' fin) (hfin : ∀ p ∈ sub, p ∈ fin) :
    News h₀ L h' news := fun p hp => by
  by_cases hm : p.1 ∈ sub.map fun x => x.1
  · obtain ⟨p0, hp0, e⟩ := List.mem_map.mp hm
    have a1 := (N p0 (hs p0 hp0)).1
    have a2 := (N p hp).1
    have e' : p0.1 = p.1 := e
    rw [e', a2] at a1
    have : p0 = p := Prod.ext e' (Option.some.inj a1).symm
    exact kN p (hfin p (this ▸ hp0))
  · exact ⟨F'.keep _ _ (GS _ _ (N p hp).1 hm), (N p hp).2⟩
/-- the walk stops here -/
def Held (P : Prop) : Prop := P
theorem held_ {P : Prop} (h : Held P) : P := h
end Mine
end
section
open PySem PySem.W PyProof.Rows
namespace Mine
theorem off_Dn : True := by w_top off; exact True.intro
set_option maxRecDepth 100000
set_option linter.unusedVariables false
set_option linter.unusedSimpArgs false
set_option maxHeartbeats 8000000
local macro_rules | `(tactic| k_room) => `(tactic| ktr_room)
local macro_rules | `(tactic| k_units) => `(tactic| ktr_units)
local macro_rules | `(tactic| units_room) => `(tactic| ktr_units)
local macro_rules | `(tactic| ktn_open) => `(tactic| (repeat (first | exact List.Mem.head _ | refine List.Mem.tail _ ?_)))
local macro_rules | `(tactic| walk_at "getMethod ref") => `(tactic| (k_here; k_dflt (refine' method_inst ?k1 ?k2 ?k3 ?k4 ?k5 ?k6 ?k7 ?_; (case k1 => k_asm); (case k2 => k_asm); (case k3 => k_inst); (case k4 => k_is); (case k5 => k_is); (case k6 => k_is); (case k7 => assumption); k_whole)))
local macro_rules | `(tactic| walk_at "call ref cons nil") => `(tactic| (k_here; (with_reducible show wpAny _ _ (call (Value.ref 56) [_, _]) _ _ _); refine held_ ?_))
local macro_rules | `(tactic| walk_at "leaving ref") => `(tactic| (k_here; refine held_ ?_))
theorem d_ret_eq (hmk : Marks hd.heap_39 PySem.Challenge.rw_vy0039_01) {prog : Program} {w : World} {p : Program} {loose : List Str} {mean : ExcName → Option Value} {mg mb : Str → Option Value} {x dx : Addr} {es : List DictEntry} {n : Nat} {ov : Value} {yl : Led} (hcm : getL "_cmp" es = some none) (C : ∀ {news' : Led}, (∀ p ∈ (((x, instObj 109 dx) :: (dx, dictOf es n) :: yl) : Led), p ∈ news') → VClaim 30 300 prog w (hd.heap_39 w.params) p loose mean mg mb 56 [.ref x, ov] news' (fun v => ∃ t, v = .int 0 t)) {news : Led} (hs : ∀ p ∈ (((x, instObj 109 dx) :: (dx, dictOf es n) :: yl) : Led), p ∈ news) :
  VClaim 32 310 prog w (hd.heap_39 w.params) p loose mean mg mb 63 [.ref x, ov] news (fun v => v = .bool true) := by
  intro dp un gd cn cs a ccd cl outer A₀ base h₀ L m s Q E
  revert hmk
  k_fill
  intro _ B F X N T hk hd hu hret
  have N0 : News h₀ L s.heap ((x, instObj 109 dx) :: (dx, dictOf es n) :: yl) := fun p hp => N p (hs p hp)
  refine wpAny_call ?_
  k_dflt (refine' code_defG ?k1 ?k2 ?k3 N0 ?k5 ?kA ?kF ?kK ?k6 ?k7 ?k8 ?k9 ?kB ?_ ?c2 ?c3 ?c4 ?c5; (case kA => exact rfl); (case kF => exact rfl); (case kK => assumption); (case k1 => k_asm); (case k2 => k_asm); (case k3 => k_asm); (case k5 => k_asm); (case k6 => k_is); (case k7 => k_is); (case k8 => ktr_room); (case k9 => exact BindsTo.of_eq rfl); (case c5 => decide); (case kB => exact locs rfl); (case c2 => exact rfl); (case c3 => exact rfl); (case c4 => exact rfl); k_whole; intro g' L' h' FG' F' N' B' X' T' GS; (try dsimp only); (try k_lift B'); (try k_fold))
  k_steps
  unfold Held
  rename Fr g' L' _ _ => F2
  rename News g' L' _ _ => N2
  refine C (fun _ h => h) _ _ _ _ _ _ _ _ _ _ _ _ _ _ _ _ _ B' F2 X' N2 T' rfl (by ktr_room) (by ktr_units) ?_
  clear F2 N2
  rintro _ h3 tk3 F3 N3 ⟨t3, rfl⟩
  k_steps
  rename Fr h₀ L _ _ => kF1
  rename News h₀ L _ _ => kN1
  rename Fr g' L' _ _ => F1'
  exact hret _ _ _ kF1 (fin_def N hs GS F1' kN1 (fun _ h => h)) rfl
theorem d_raise_eq (hmk : Marks hd.heap_39 PySem.Challenge.rw_vy0039_01) {prog : Program} {w : World} {p : Program} {loose : List Str} {mean : ExcName → Option Value} {mg mb : Str → Option Value} {x dx : Addr} {es : List DictEntry} {n : Nat} {ov : Value} {yl : Led} (hcm : getL "_cmp" es = some none) (C : RClaim 30 300 prog w (hd.heap_39 w.params) p loose mean mg mb 56 [.ref x, ov] ((x, instObj 109 dx) :: (dx, dictOf es n) :: yl)) :
  RClaim 32 310 prog w (hd.heap_39 w.params) p loose mean mg mb 63 [.ref x, ov] ((x, instObj 109 dx) :: (dx, dictOf es n) :: yl) := by
  intro dp un gd cn cs a ccd cl outer A₀ base h₀ L m s Q E
  revert hmk
  k_fill
  intro _ B F X N0 T hk hd hu hret
  refine wpAny_call ?_
  k_dflt (refine' code_defG ?k1 ?k2 ?k3 N0 ?k5 ?kA ?kF ?kK ?k6 ?k7 ?k8 ?k9 ?kB ?_ ?c2 ?c3 ?c4 ?c5; (case kA => exact rfl); (case kF => exact rfl); (case kK => assumption); (case k1 => k_asm); (case k2 => k_asm); (case k3 => k_asm); (case k5 => k_asm); (case k6 => k_is); (case k7 => k_is); (case k8 => ktr_room); (case k9 => exact BindsTo.of_eq rfl); (case c5 => decide); (case kB => exact locs rfl); (case c2 => exact rfl); (case c3 => exact rfl); (case c4 => exact rfl); k_whole; intro g' L' h' FG' F' N' B' X' T' GS; (try dsimp only); (try k_lift B'); (try k_fold))
  k_steps
  unfold Held
  rename Fr g' L' _ _ => F2
  rename News g' L' _ _ => N2
  refine C _ _ _ _ _ _ _ _ _ _ _ _ _ _ _ _ _ B' F2 X' N2 T' rfl (by ktr_room) (by ktr_units) ?_
  clear F2 N2
  intro G3 e3 h3 tk3 F3 GS3 R3 U3
  k_steps
  unfold Held
  refine leave_onXN B' F3 R3 U3 rfl fun h9 R9 U9 => ?_
  exact hret _ _ _ _ FG' GS R9 U9
theorem d_ret_ne (hmk : Marks hd.heap_39 PySem.Challenge.rw_vy0039_01) {prog : Program} {w : World} {p : Program} {loose : List Str} {mean : ExcName → Option Value} {mg mb : Str → Option Value} {x dx : Addr} {es : List DictEntry} {n : Nat} {ov : Value} {yl : Led} (hcm : getL "_cmp" es = some none) (C : ∀ {news' : Led}, (∀ p ∈ (((x, instObj 109 dx) :: (dx, dictOf es n) :: yl) : Led), p ∈ news') → VClaim 30 300 prog w (hd.heap_39 w.params) p loose mean mg mb 56 [.ref x, ov] news' (fun v => ∃ t, v = .int 0 t)) {news : Led} (hs : ∀ p ∈ (((x, instObj 109 dx) :: (dx, dictOf es n) :: yl) : Led), p ∈ news) :
  VClaim 32 310 prog w (hd.heap_39 w.params) p loose mean mg mb 70 [.ref x, ov] news (fun v => v = .bool false) := by
  intro dp un gd cn cs a ccd cl outer A₀ base h₀ L m s Q E
  revert hmk
  k_fill
  intro _ B F X N T hk hd hu hret
  have N0 : News h₀ L s.heap ((x, instObj 109 dx) :: (dx, dictOf es n) :: yl) := fun p hp => N p (hs p hp)
  refine wpAny_call ?_
  k_dflt (refine' code_defG ?k1 ?k2 ?k3 N0 ?k5 ?kA ?kF ?kK ?k6 ?k7 ?k8 ?k9 ?kB ?_ ?c2 ?c3 ?c4 ?c5; (case kA => exact rfl); (case kF => exact rfl); (case kK => assumption); (case k1 => k_asm); (case k2 => k_asm); (case k3 => k_asm); (case k5 => k_asm); (case k6 => k_is); (case k7 => k_is); (case k8 => ktr_room); (case k9 => exact BindsTo.of_eq rfl); (case c5 => decide); (case kB => exact locs rfl); (case c2 => exact rfl); (case c3 => exact rfl); (case c4 => exact rfl); k_whole; intro g' L' h' FG' F' N' B' X' T' GS; (try dsimp only); (try k_lift B'); (try k_fold))
  k_steps
  unfold Held
  rename Fr g' L' _ _ => F2
  rename News g' L' _ _ => N2
  refine C (fun _ h => h) _ _ _ _ _ _ _ _ _ _ _ _ _ _ _ _ _ B' F2 X' N2 T' rfl (by ktr_room) (by ktr_units) ?_
  clear F2 N2
  rintro _ h3 tk3 F3 N3 ⟨t3, rfl⟩
  k_steps
  rename Fr h₀ L _ _ => kF1
  rename News h₀ L _ _ => kN1
  rename Fr g' L' _ _ => F1'
  exact hret _ _ _ kF1 (fin_def N hs GS F1' kN1 (fun _ h => h)) rfl
theorem d_raise_ne (hmk : Marks hd.heap_39 PySem.Challenge.rw_vy0039_01) {prog : Program} {w : World} {p : Program} {loose : List Str} {mean : ExcName → Option Value} {mg mb : Str → Option Value} {x dx : Addr} {es : List DictEntry} {n : Nat} {ov : Value} {yl : Led} (hcm : getL "_cmp" es = some none) (C : RClaim 30 300 prog w (hd.heap_39 w.params) p loose mean mg mb 56 [.ref x, ov] ((x, instObj 109 dx) :: (dx, dictOf es n) :: yl)) :
  RClaim 32 310 prog w (hd.heap_39 w.params) p loose mean mg mb 70 [.ref x, ov] ((x, instObj 109 dx) :: (dx, dictOf es n) :: yl) := by
  intro dp un gd cn cs a ccd cl outer A₀ base h₀ L m s Q E
  revert hmk
  k_fill
  intro _ B F X N0 T hk hd hu hret
  refine wpAny_call ?_
  k_dflt (refine' code_defG ?k1 ?k2 ?k3 N0 ?k5 ?kA ?kF ?kK ?k6 ?k7 ?k8 ?k9 ?kB ?_ ?c2 ?c3 ?c4 ?c5; (case kA => exact rfl); (case kF => exact rfl); (case kK => assumption); (case k1 => k_asm); (case k2 => k_asm); (case k3 => k_asm); (case k5 => k_asm); (case k6 => k_is); (case k7 => k_is); (case k8 => ktr_room); (case k9 => exact BindsTo.of_eq rfl); (case c5 => decide); (case kB => exact locs rfl); (case c2 => exact rfl); (case c3 => exact rfl); (case c4 => exact rfl); k_whole; intro g' L' h' FG' F' N' B' X' T' GS; (try dsimp only); (try k_lift B'); (try k_fold))
  k_steps
  unfold Held
  rename Fr g' L' _ _ => F2
  rename News g' L' _ _ => N2
  refine C _ _ _ _ _ _ _ _ _ _ _ _ _ _ _ _ _ B' F2 X' N2 T' rfl (by ktr_room) (by ktr_units) ?_
  clear F2 N2
  intro G3 e3 h3 tk3 F3 GS3 R3 U3
  k_steps
  unfold Held
  refine leave_onXN B' F3 R3 U3 rfl fun h9 R9 U9 => ?_
  exact hret _ _ _ _ FG' GS R9 U9
theorem d_ret_lt (hmk : Marks hd.heap_39 PySem.Challenge.rw_vy0039_01) {prog : Program} {w : World} {p : Program} {loose : List Str} {mean : ExcName → Option Value} {mg mb : Str → Option Value} {x dx : Addr} {es : List DictEntry} {n : Nat} {ov : Value} {yl : Led} (hcm : getL "_cmp" es = some none) (C : ∀ {news' : Led}, (∀ p ∈ (((x, instObj 109 dx) :: (dx, dictOf es n) :: yl) : Led), p ∈ news') → VClaim 30 300 prog w (hd.heap_39 w.params) p loose mean mg mb 56 [.ref x, ov] news' (fun v => ∃ t, v = .int 0 t)) {news : Led} (hs : ∀ p ∈ (((x, instObj 109 dx) :: (dx, dictOf es n) :: yl) : Led), p ∈ news) :
  VClaim 32 310 prog w (hd.heap_39 w.params) p loose mean mg mb 77 [.ref x, ov] news (fun v => v = .bool false) := by
  intro dp un gd cn cs a ccd cl outer A₀ base h₀ L m s Q E
  revert hmk
  k_fill
  intro _ B F X N T hk hd hu hret
  have N0 : News h₀ L s.heap ((x, instObj 109 dx) :: (dx, dictOf es n) :: yl) := fun p hp => N p (hs p hp)
  refine wpAny_call ?_
  k_dflt (refine' code_defG ?k1 ?k2 ?k3 N0 ?k5 ?kA ?kF ?kK ?k6 ?k7 ?k8 ?k9 ?kB ?_ ?c2 ?c3 ?c4 ?c5; (case kA => exact rfl); (case kF => exact rfl); (case kK => assumption); (case k1 => k_asm); (case k2 => k_asm); (case k3 => k_asm); (case k5 => k_asm); (case k6 => k_is); (case k7 => k_is); (case k8 => ktr_room); (case k9 => exact BindsTo.of_eq rfl); (case c5 => decide); (case kB => exact locs rfl); (case c2 => exact rfl); (case c3 => exact rfl); (case c4 => exact rfl); k_whole; intro g' L' h' FG' F' N' B' X' T' GS; (try dsimp only); (try k_lift B'); (try k_fold))
  k_steps
  unfold Held
  rename Fr g' L' _ _ => F2
  rename News g' L' _ _ => N2
  refine C (fun _ h => h) _ _ _ _ _ _ _ _ _ _ _ _ _ _ _ _ _ B' F2 X' N2 T' rfl (by ktr_room) (by ktr_units) ?_
  clear F2 N2
  rintro _ h3 tk3 F3 N3 ⟨t3, rfl⟩
  k_steps
  rename Fr h₀ L _ _ => kF1
  rename News h₀ L _ _ => kN1
  rename Fr g' L' _ _ => F1'
  exact hret _ _ _ kF1 (fin_def N hs GS F1' kN1 (fun _ h => h)) rfl
theorem d_raise_lt (hmk : Marks hd.heap_39 PySem.Challenge.rw_vy0039_01) {prog : Program} {w : World} {p : Program} {loose : List Str} {mean : ExcName → Option Value} {mg mb : Str → Option Value} {x dx : Addr} {es : List DictEntry} {n : Nat} {ov : Value} {yl : Led} (hcm : getL "_cmp" es = some none) (C : RClaim 30 300 prog w (hd.heap_39 w.params) p loose mean mg mb 56 [.ref x, ov] ((x, instObj 109 dx) :: (dx, dictOf es n) :: yl)) :
  RClaim 32 310 prog w (hd.heap_39 w.params) p loose mean mg mb 77 [.ref x, ov] ((x, instObj 109 dx) :: (dx, dictOf es n) :: yl) := by
  intro dp un gd cn cs a ccd cl outer A₀ base h₀ L m s Q E
  revert hmk
  k_fill
  intro _ B F X N0 T hk hd hu hret
  refine wpAny_call ?_
  k_dflt (refine' code_defG ?k1 ?k2 ?k3 N0 ?k5 ?kA ?kF ?kK ?k6 ?k7 ?k8 ?k9 ?kB ?_ ?c2 ?c3 ?c4 ?c5; (case kA => exact rfl); (case kF => exact rfl); (case kK => assumption); (case k1 => k_asm); (case k2 => k_asm); (case k3 => k_asm); (case k5 => k_asm); (case k6 => k_is); (case k7 => k_is); (case k8 => ktr_room); (case k9 => exact BindsTo.of_eq rfl); (case c5 => decide); (case kB => exact locs rfl); (case c2 => exact rfl); (case c3 => exact rfl); (case c4 => exact rfl); k_whole; intro g' L' h' FG' F' N' B' X' T' GS; (try dsimp only); (try k_lift B'); (try k_fold))
  k_steps
  unfold Held
  rename Fr g' L' _ _ => F2
  rename News g' L' _ _ => N2
  refine C _ _ _ _ _ _ _ _ _ _ _ _ _ _ _ _ _ B' F2 X' N2 T' rfl (by ktr_room) (by ktr_units) ?_
  clear F2 N2
  intro G3 e3 h3 tk3 F3 GS3 R3 U3
  k_steps
  unfold Held
  refine leave_onXN B' F3 R3 U3 rfl fun h9 R9 U9 => ?_
  exact hret _ _ _ _ FG' GS R9 U9
theorem d_ret_gt (hmk : Marks hd.heap_39 PySem.Challenge.rw_vy0039_01) {prog : Program} {w : World} {p : Program} {loose : List Str} {mean : ExcName → Option Value} {mg mb : Str → Option Value} {x dx : Addr} {es : List DictEntry} {n : Nat} {ov : Value} {yl : Led} (hcm : getL "_cmp" es = some none) (C : ∀ {news' : Led}, (∀ p ∈ (((x, instObj 109 dx) :: (dx, dictOf es n) :: yl) : Led), p ∈ news') → VClaim 30 300 prog w (hd.heap_39 w.params) p loose mean mg mb 56 [.ref x, ov] news' (fun v => ∃ t, v = .int 0 t)) {news : Led} (hs : ∀ p ∈ (((x, instObj 109 dx) :: (dx, dictOf es n) :: yl) : Led), p ∈ news) :
  VClaim 32 310 prog w (hd.heap_39 w.params) p loose mean mg mb 84 [.ref x, ov] news (fun v => v = .bool false) := by
  intro dp un gd cn cs a ccd cl outer A₀ base h₀ L m s Q E
  revert hmk
  k_fill
  intro _ B F X N T hk hd hu hret
  have N0 : News h₀ L s.heap ((x, instObj 109 dx) :: (dx, dictOf es n) :: yl) := fun p hp => N p (hs p hp)
  refine wpAny_call ?_
  k_dflt (refine' code_defG ?k1 ?k2 ?k3 N0 ?k5 ?kA ?kF ?kK ?k6 ?k7 ?k8 ?k9 ?kB ?_ ?c2 ?c3 ?c4 ?c5; (case kA => exact rfl); (case kF => exact rfl); (case kK => assumption); (case k1 => k_asm); (case k2 => k_asm); (case k3 => k_asm); (case k5 => k_asm); (case k6 => k_is); (case k7 => k_is); (case k8 => ktr_room); (case k9 => exact BindsTo.of_eq rfl); (case c5 => decide); (case kB => exact locs rfl); (case c2 => exact rfl); (case c3 => exact rfl); (case c4 => exact rfl); k_whole; intro g' L' h' FG' F' N' B' X' T' GS; (try dsimp only); (try k_lift B'); (try k_fold))
  k_steps
  unfold Held
  rename Fr g' L' _ _ => F2
  rename News g' L' _ _ => N2
  refine C (fun _ h => h) _ _ _ _ _ _ _ _ _ _ _ _ _ _ _ _ _ B' F2 X' N2 T' rfl (by ktr_room) (by ktr_units) ?_
  clear F2 N2
  rintro _ h3 tk3 F3 N3 ⟨t3, rfl⟩
  k_steps
  rename Fr h₀ L _ _ => kF1
  rename News h₀ L _ _ => kN1
  rename Fr g' L' _ _ => F1'
  exact hret _ _ _ kF1 (fin_def N hs GS F1' kN1 (fun _ h => h)) rfl
theorem d_raise_gt (hmk : Marks hd.heap_39 PySem.Challenge.rw_vy0039_01) {prog : Program} {w : World} {p : Program} {loose : List Str} {mean : ExcName → Option Value} {mg mb : Str → Option Value} {x dx : Addr} {es : List DictEntry} {n : Nat} {ov : Value} {yl : Led} (hcm : getL "_cmp" es = some none) (C : RClaim 30 300 prog w (hd.heap_39 w.params) p loose mean mg mb 56 [.ref x, ov] ((x, instObj 109 dx) :: (dx, dictOf es n) :: yl)) :
  RClaim 32 310 prog w (hd.heap_39 w.params) p loose mean mg mb 84 [.ref x, ov] ((x, instObj 109 dx) :: (dx, dictOf es n) :: yl) := by
  intro dp un gd cn cs a ccd cl outer A₀ base h₀ L m s Q E
  revert hmk
  k_fill
  intro _ B F X N0 T hk hd hu hret
  refine wpAny_call ?_
  k_dflt (refine' code_defG ?k1 ?k2 ?k3 N0 ?k5 ?kA ?kF ?kK ?k6 ?k7 ?k8 ?k9 ?kB ?_ ?c2 ?c3 ?c4 ?c5; (case kA => exact rfl); (case kF => exact rfl); (case kK => assumption); (case k1 => k_asm); (case k2 => k_asm); (case k3 => k_asm); (case k5 => k_asm); (case k6 => k_is); (case k7 => k_is); (case k8 => ktr_room); (case k9 => exact BindsTo.of_eq rfl); (case c5 => decide); (case kB => exact locs rfl); (case c2 => exact rfl); (case c3 => exact rfl); (case c4 => exact rfl); k_whole; intro g' L' h' FG' F' N' B' X' T' GS; (try dsimp only); (try k_lift B'); (try k_fold))
  k_steps
  unfold Held
  rename Fr g' L' _ _ => F2
  rename News g' L' _ _ => N2
  refine C _ _ _ _ _ _ _ _ _ _ _ _ _ _ _ _ _ B' F2 X' N2 T' rfl (by ktr_room) (by ktr_units) ?_
  clear F2 N2
  intro G3 e3 h3 tk3 F3 GS3 R3 U3
  k_steps
  unfold Held
  refine leave_onXN B' F3 R3 U3 rfl fun h9 R9 U9 => ?_
  exact hret _ _ _ _ FG' GS R9 U9
theorem d_ret_le (hmk : Marks hd.heap_39 PySem.Challenge.rw_vy0039_01) {prog : Program} {w : World} {p : Program} {loose : List Str} {mean : ExcName → Option Value} {mg mb : Str → Option Value} {x dx : Addr} {es : List DictEntry} {n : Nat} {ov : Value} {yl : Led} (hcm : getL "_cmp" es = some none) (C : ∀ {news' : Led}, (∀ p ∈ (((x, instObj 109 dx) :: (dx, dictOf es n) :: yl) : Led), p ∈ news') → VClaim 30 300 prog w (hd.heap_39 w.params) p loose mean mg mb 56 [.ref x, ov] news' (fun v => ∃ t, v = .int 0 t)) {news : Led} (hs : ∀ p ∈ (((x, instObj 109 dx) :: (dx, dictOf es n) :: yl) : Led), p ∈ news) :
  VClaim 32 310 prog w (hd.heap_39 w.params) p loose mean mg mb 91 [.ref x, ov] news (fun v => v = .bool true) := by
  intro dp un gd cn cs a ccd cl outer A₀ base h₀ L m s Q E
  revert hmk
  k_fill
  intro _ B F X N T hk hd hu hret
  have N0 : News h₀ L s.heap ((x, instObj 109 dx) :: (dx, dictOf es n) :: yl) := fun p hp => N p (hs p hp)
  refine wpAny_call ?_
  k_dflt (refine' code_defG ?k1 ?k2 ?k3 N0 ?k5 ?kA ?kF ?kK ?k6 ?k7 ?k8 ?k9 ?kB ?_ ?c2 ?c3 ?c4 ?c5; (case kA => exact rfl); (case kF => exact rfl); (case kK => assumption); (case k1 => k_asm); (case k2 => k_asm); (case k3 => k_asm); (case k5 => k_asm); (case k6 => k_is); (case k7 => k_is); (case k8 => ktr_room); (case k9 => exact BindsTo.of_eq rfl); (case c5 => decide); (case kB => exact locs rfl); (case c2 => exact rfl); (case c3 => exact rfl); (case c4 => exact rfl); k_whole; intro g' L' h' FG' F' N' B' X' T' GS; (try dsimp only); (try k_lift B'); (try k_fold))
  k_steps
  unfold Held
  rename Fr g' L' _ _ => F2
  rename News g' L' _ _ => N2
  refine C (fun _ h => h) _ _ _ _ _ _ _ _ _ _ _ _ _ _ _ _ _ B' F2 X' N2 T' rfl (by ktr_room) (by ktr_units) ?_
  clear F2 N2
  rintro _ h3 tk3 F3 N3 ⟨t3, rfl⟩
  k_steps
  rename Fr h₀ L _ _ => kF1
  rename News h₀ L _ _ => kN1
  rename Fr g' L' _ _ => F1'
  exact hret _ _ _ kF1 (fin_def N hs GS F1' kN1 (fun _ h => h)) rfl
theorem d_raise_le (hmk : Marks hd.heap_39 PySem.Challenge.rw_vy0039_01) {prog : Program} {w : World} {p : Program} {loose : List Str} {mean : ExcName → Option Value} {mg mb : Str → Option Value} {x dx : Addr} {es : List DictEntry} {n : Nat} {ov : Value} {yl : Led} (hcm : getL "_cmp" es = some none) (C : RClaim 30 300 prog w (hd.heap_39 w.params) p loose mean mg mb 56 [.ref x, ov] ((x, instObj 109 dx) :: (dx, dictOf es n) :: yl)) :
  RClaim 32 310 prog w (hd.heap_39 w.params) p loose mean mg mb 91 [.ref x, ov] ((x, instObj 109 dx) :: (dx, dictOf es n) :: yl) := by
  intro dp un gd cn cs a ccd cl outer A₀ base h₀ L m s Q E
  revert hmk
  k_fill
  intro _ B F X N0 T hk hd hu hret
  refine wpAny_call ?_
  k_dflt (refine' code_defG ?k1 ?k2 ?k3 N0 ?k5 ?kA ?kF ?kK ?k6 ?k7 ?k8 ?k9 ?kB ?_ ?c2 ?c3 ?c4 ?c5; (case kA => exact rfl); (case kF => exact rfl); (case kK => assumption); (case k1 => k_asm); (case k2 => k_asm); (case k3 => k_asm); (case k5 => k_asm); (case k6 => k_is); (case k7 => k_is); (case k8 => ktr_room); (case k9 => exact BindsTo.of_eq rfl); (case c5 => decide); (case kB => exact locs rfl); (case c2 => exact rfl); (case c3 => exact rfl); (case c4 => exact rfl); k_whole; intro g' L' h' FG' F' N' B' X' T' GS; (try dsimp only); (try k_lift B'); (try k_fold))
  k_steps
  unfold Held
  rename Fr g' L' _ _ => F2
  rename News g' L' _ _ => N2
  refine C _ _ _ _ _ _ _ _ _ _ _ _ _ _ _ _ _ B' F2 X' N2 T' rfl (by ktr_room) (by ktr_units) ?_
  clear F2 N2
  intro G3 e3 h3 tk3 F3 GS3 R3 U3
  k_steps
  unfold Held
  refine leave_onXN B' F3 R3 U3 rfl fun h9 R9 U9 => ?_
  exact hret _ _ _ _ FG' GS R9 U9
theorem d_ret_ge (hmk : Marks hd.heap_39 PySem.Challenge.rw_vy0039_01) {prog : Program} {w : World} {p : Program} {loose : List Str} {mean : ExcName → Option Value} {mg mb : Str → Option Value} {x dx : Addr} {es : List DictEntry} {n : Nat} {ov : Value} {yl : Led} (hcm : getL "_cmp" es = some none) (C : ∀ {news' : Led}, (∀ p ∈ (((x, instObj 109 dx) :: (dx, dictOf es n) :: yl) : Led), p ∈ news') → VClaim 30 300 prog w (hd.heap_39 w.params) p loose mean mg mb 56 [.ref x, ov] news' (fun v => ∃ t, v = .int 0 t)) {news : Led} (hs : ∀ p ∈ (((x, instObj 109 dx) :: (dx, dictOf es n) :: yl) : Led), p ∈ news) :
  VClaim 32 310 prog w (hd.heap_39 w.params) p loose mean mg mb 98 [.ref x, ov] news (fun v => v = .bool true) := by
  intro dp un gd cn cs a ccd cl outer A₀ base h₀ L m s Q E
  revert hmk
  k_fill
  intro _ B F X N T hk hd hu hret
  have N0 : News h₀ L s.heap ((x, instObj 109 dx) :: (dx, dictOf es n) :: yl) := fun p hp => N p (hs p hp)
  refine wpAny_call ?_
  k_dflt (refine' code_defG ?k1 ?k2 ?k3 N0 ?k5 ?kA ?kF ?kK ?k6 ?k7 ?k8 ?k9 ?kB ?_ ?c2 ?c3 ?c4 ?c5; (case kA => exact rfl); (case kF => exact rfl); (case kK => assumption); (case k1 => k_asm); (case k2 => k_asm); (case k3 => k_asm); (case k5 => k_asm); (case k6 => k_is); (case k7 => k_is); (case k8 => ktr_room); (case k9 => exact BindsTo.of_eq rfl); (case c5 => decide); (case kB => exact locs rfl); (case c2 => exact rfl); (case c3 => exact rfl); (case c4 => exact rfl); k_whole; intro g' L' h' FG' F' N' B' X' T' GS; (try dsimp only); (try k_lift B'); (try k_fold))
  k_steps
  unfold Held
  rename Fr g' L' _ _ => F2
  rename News g' L' _ _ => N2
  refine C (fun _ h => h) _ _ _ _ _ _ _ _ _ _ _ _ _ _ _ _ _ B' F2 X' N2 T' rfl (by ktr_room) (by ktr_units) ?_
  clear F2 N2
  rintro _ h3 tk3 F3 N3 ⟨t3, rfl⟩
  k_steps
  rename Fr h₀ L _ _ => kF1
  rename News h₀ L _ _ => kN1
  rename Fr g' L' _ _ => F1'
  exact hret _ _ _ kF1 (fin_def N hs GS F1' kN1 (fun _ h => h)) rfl
theorem d_raise_ge (hmk : Marks hd.heap_39 PySem.Challenge.rw_vy0039_01) {prog : Program} {w : World} {p : Program} {loose : List Str} {mean : ExcName → Option Value} {mg mb : Str → Option Value} {x dx : Addr} {es : List DictEntry} {n : Nat} {ov : Value} {yl : Led} (hcm : getL "_cmp" es = some none) (C : RClaim 30 300 prog w (hd.heap_39 w.params) p loose mean mg mb 56 [.ref x, ov] ((x, instObj 109 dx) :: (dx, dictOf es n) :: yl)) :
  RClaim 32 310 prog w (hd.heap_39 w.params) p loose mean mg mb 98 [.ref x, ov] ((x, instObj 109 dx) :: (dx, dictOf es n) :: yl) := by
  intro dp un gd cn cs a ccd cl outer A₀ base h₀ L m s Q E
  revert hmk
  k_fill
  intro _ B F X N0 T hk hd hu hret
  refine wpAny_call ?_
  k_dflt (refine' code_defG ?k1 ?k2 ?k3 N0 ?k5 ?kA ?kF ?kK ?k6 ?k7 ?k8 ?k9 ?kB ?_ ?c2 ?c3 ?c4 ?c5; (case kA => exact rfl); (case kF => exact rfl); (case kK => assumption); (case k1 => k_asm); (case k2 => k_asm); (case k3 => k_asm); (case k5 => k_asm); (case k6 => k_is); (case k7 => k_is); (case k8 => ktr_room); (case k9 => exact BindsTo.of_eq rfl); (case c5 => decide); (case kB => exact locs rfl); (case c2 => exact rfl); (case c3 => exact rfl); (case c4 => exact rfl); k_whole; intro g' L' h' FG' F' N' B' X' T' GS; (try dsimp only); (try k_lift B'); (try k_fold))
  k_steps
  unfold Held
  rename Fr g' L' _ _ => F2
  rename News g' L' _ _ => N2
  refine C _ _ _ _ _ _ _ _ _ _ _ _ _ _ _ _ _ B' F2 X' N2 T' rfl (by ktr_room) (by ktr_units) ?_
  clear F2 N2
  intro G3 e3 h3 tk3 F3 GS3 R3 U3
  k_steps
  unfold Held
  refine leave_onXN B' F3 R3 U3 rfl fun h9 R9 U9 => ?_
  exact hret _ _ _ _ FG' GS R9 U9

end Mine
end
section
open PySem PySem.W PySem.Spec PySem.Calls PyProof.Rows
namespace Mine
theorem off_Lm : True := by w_top off; exact True.intro
set_option maxRecDepth 100000
set_option linter.unusedVariables false
set_option linter.unusedSimpArgs false
set_option maxHeartbeats 8000000
local macro_rules | `(tactic| k_room) => `(tactic| ktr_room)
local macro_rules | `(tactic| k_units) => `(tactic| ktr_units)
local macro_rules | `(tactic| units_room) => `(tactic| ktr_units)
local macro_rules | `(tactic| walk_at "eval Name") => `(tactic| (k_here; refine held_ ?_))
local macro_rules | `(tactic| walk_at "CmpBack") => `(tactic| (k_here; refine held_ ?_))
local macro_rules | `(tactic| ktn_open) => `(tactic| (repeat (first | exact List.Mem.head _ | refine List.Mem.tail _ ?_)))
section
variable {prog : Program} {w : World} {A A₀ : Around} {s : Shared} {K : Frag} {L : Addr} {h₀ base : Heap} {m mg mb : Str → Option Value} {news : List (Addr × Obj)} {p : Program} {loose : List Str} {mean : ExcName → Option Value}
/-- a lambda of the ledger is called -/
theorem lam_codeG {env : Env} {outer : List Env} {R : Result → Shared → Prop} {name qual : Str} {params : Arguments} {body : Expr} {scope : Scope} {cl : List (Str × Addr)} {pm ctv : Value} {c' : Addr} {f : Addr}
    (B : Below A₀ base outer h₀) (F : Fr h₀ L s.heap m) (X₀ : K.In h₀) (N : News h₀ L s.heap news) (T : Top p loose mean mg mb h₀) (hA : A.frames = some (env :: outer)) (hf : env.frame = some L) (hke : env.scope.kind = .function)
    (ho : (f, kla_obj name qual params body scope cl pm c' ctv) ∈ news) (hcd : s.heap.CodeRec (.ref c') qual) (hroom : A.depth < recursionLimit)
    (hbind : bindArgs (kla_fn name qual params body scope cl pm (.ref c') ctv) ⟨[], []⟩ = pure [])
    (h : ∀ g L' h₁, Fr h₀ L g m → Fr g L' h₁ (fun _ => none) → News g L' h₁ news → Below A base (env :: outer) g → K.In g → Top p loose mean mg mb g → GSub s.heap g (news.map (·.1)) →
      wpAny (model prog w) (A.deeper (envX qual scope L' f (.ref c') cl)) (eval body (envX qual scope L' f (.ref c') cl))
        (fun v s' => LeaveK h₀ L m g R v s')
        (fun e s' => wpAny (model prog w) (A.deeper (envX qual scope L' f (.ref c') cl)) (leaving (envX qual scope L' f (.ref c') cl) e) (fun _ s'' => R (.error e) s'') (fun e' s'' => R (.error e') s'') s')
        { s with heap := h₁ })
    (hco : scope.isCoroutine = false) (hgen : scope.isGenerator = false) (hk : scope.kind = .function)
    (hcell : ∀ x ∈ scope.names, x.2 ≠ .cell) : codeAny (model prog w) A (.call (.ref f) ⟨[], []⟩) R s := by
  obtain ⟨FG, BG, st, lv⟩ := groundX (R := R) B F N hA hf hke
  refine kla_callFunE hroom (N _ ho).1 rfl hco hgen rfl hcd ?_
  rw [hbind]
  refine wpAny_pure (wpAny_newFunctionEnv hcell (fun _ h => nomatch h) (fun h₁ hns hsb => ⟨((T.nolimit).keeps F.keep).fresh _ hsb, ?_⟩) hk)
  show codeAny _ _ (.expr body (envX qual scope s.heap.objs.size f (.ref c') cl)) _ _
  have hk₁ : ∀ b o, s.heap.get? b = some o → h₁.get? b = some o := fun b o e => hsb.extBut b o (Nat.ne_of_lt (Heap.lt_size e)) (Heap.get?_push_of_some _ e)
  exact kla_codeExpr (wpAny_mono (h _ s.heap.objs.size h₁ FG ⟨hns, fun b o e => hk₁ b o (of_hideAll _ e), Nat.le_of_eq (hideAll_size _ _)⟩
    (fun p hp => ⟨hk₁ _ _ (N p hp).1, Nat.ne_of_lt (Heap.lt_size (N p hp).1), hideAll_none _ (List.mem_map_of_mem hp)⟩) BG (X₀.keeps st) (T.keeps st) (fun b o e n => hideAll_get _ e n)) (fun v s' hl => lv _ _ hl) fun _ _ y => y)
end
abbrev parL : Arguments := { posonlyargs := [], args := [], vararg := none, kwonlyargs := [], kw_defaults := [], kwarg := none, defaults := [] }
abbrev scL : Scope := { kind := .function, names := [("one", .free), ("other", .free)], isGenerator := false, isCoroutine := false }
abbrev bodyL (op : CmpOp) (p1 p2 p3 : Pos) : Expr := .Compare (.Name "one" p1) [op] [.Name "other" p2] p3
abbrev subX (x dx : Addr) (es : List DictEntry) (n : Nat) (yl : Led) : Led := (x, instObj 109 dx) :: (dx, dictOf es n) :: yl
abbrev subL (f c' c1 c2 : Addr) (op : CmpOp) (p1 p2 p3 : Pos) (qual : Str) (pm ctv : Value) (oc o1 o2 : Obj) : Led :=
  [(f, kla_obj "<lambda>" qual parL (bodyL op p1 p2 p3) scL [("other", c1), ("one", c2)] pm c' ctv), (c', oc), (c1, o1), (c2, o2)]
theorem lam_ret (hmk : Marks hd.heap_39 PySem.Challenge.rw_vy0039_01) {prog : Program} {w : World} {p : Program} {loose : List Str} {mean : ExcName → Option Value} {mg mb : Str → Option Value} {x dx : Addr} {es : List DictEntry} {n : Nat} {ov tb : Value} {yl : Led}
    {f c' c1 c2 fd : Addr} {op : CmpOp} {p1 p2 p3 : Pos} {qual : Str} {pm ctv : Value} {oc o1 o2 : Obj} {vs : Array Value} {t : Tok} {b : Bool}
    (hop : ∀ a b, compareOp op a b = richCompare op a b) (hs : findIn (hd.heap_39 w.params) (.ref 109) (cmpInfo op).2.1 = some (some (.ref fd))) (hfn : isFn (hd.heap_39 w.params) (.ref fd) = true)
    (hn : notFirst (hd.heap_39 w.params) 109 tb = true) (hty : ∀ {g L h}, News g L h (subX x dx es n yl) → (hd.heap_39 w.params).In h → Looks (model prog w) h (typeOf ov) tb)
    (d1 : o1.data = .cell (some ov)) (d2 : o2.data = .cell (some (.ref x))) (dc : oc.data = .fields vs) (dv : vs[1]? = some (.str qual t))
    (C : ∀ {news' : Led}, (∀ q ∈ subX x dx es n yl, q ∈ news') → VClaim 32 310 prog w (hd.heap_39 w.params) p loose mean mg mb fd [.ref x, ov] news' (fun v => v = .bool b))
    {news : Led} (hsub : ∀ q ∈ subL f c' c1 c2 op p1 p2 p3 qual pm ctv oc o1 o2 ++ subX x dx es n yl, q ∈ news) :
    VClaim 34 320 prog w (hd.heap_39 w.params) p loose mean mg mb f [] news (fun v => v = .bool b) := by
  intro dp un gd cn cs a ccd cl outer A₀ base h₀ L m s Q E
  revert hmk
  k_fill
  intro _ B F X N T hk hd hu hret
  have N0 : News h₀ L s.heap ((f, kla_obj "<lambda>" qual parL (bodyL op p1 p2 p3) scL [("other", c1), ("one", c2)] pm c' ctv) :: (c', oc) :: (c1, o1) :: (c2, o2) :: (x, instObj 109 dx) :: (dx, dictOf es n) :: yl) := fun q hq => N q (hsub q hq)
  refine wpAny_call ?_
  refine lam_codeG B F X N0 T rfl rfl hk (.head _) (codeRec_news N0 (.tail _ (.head _)) dc dv) (by ktr_room) rfl ?_ rfl rfl rfl (by decide)
  intro g' L' h' FG' F' N' B' X' T' GS
  (try dsimp only); (try k_lift B'); (try k_fold)
  k_steps
  unfold Held
  refine nameX_F (c := c2) N' rfl (by ktn_open) d2 ?_
  refine nameX_F (c := c1) N' rfl (by ktn_open) d1 ?_
  have hop' := hop (.ref x) ov
  rw [hop']
  have NX : News g' L' h' (subX x dx es n yl) := fun q hq => N' q (by exact .tail _ (.tail _ (.tail _ (.tail _ hq))))
  refine cmp_K (by ktr_units) F' X' (InstAt.of_news N' (h1 := by ktn_open) (h2 := by ktn_open)) (hty NX (X'.keeps F'.keep)) hn hs hfn ?_
  refine C (fun q hq => by exact .tail _ (.tail _ (.tail _ (.tail _ hq)))) _ _ _ _ _ _ _ _ _ _ _ _ _ _ _ _ _ B' F' X' N' T' rfl (by ktr_room) (by ktr_units) ?_
  rintro _ h3 tk3 F3 N3 rfl
  change qk (Value.bool b) _
  k_steps
  rename Fr h₀ L _ _ => kF1
  rename News h₀ L _ _ => kN1
  rename Fr g' L' _ _ => F1'
  exact hret _ _ _ kF1 (fin_def N hsub GS F1' kN1 (fun _ h => h)) rfl
theorem lam_raise (hmk : Marks hd.heap_39 PySem.Challenge.rw_vy0039_01) {prog : Program} {w : World} {p : Program} {loose : List Str} {mean : ExcName → Option Value} {mg mb : Str → Option Value} {x dx : Addr} {es : List DictEntry} {n : Nat} {ov tb : Value} {yl : Led}
    {f c' c1 c2 fd : Addr} {op : CmpOp} {p1 p2 p3 : Pos} {qual : Str} {pm ctv : Value} {oc o1 o2 : Obj} {vs : Array Value} {t : Tok}
    (hop : ∀ a b, compareOp op a b = richCompare op a b) (hs : findIn (hd.heap_39 w.params) (.ref 109) (cmpInfo op).2.1 = some (some (.ref fd))) (hfn : isFn (hd.heap_39 w.params) (.ref fd) = true)
    (hn : notFirst (hd.heap_39 w.params) 109 tb = true) (hty : ∀ {g L h}, News g L h (subX x dx es n yl) → (hd.heap_39 w.params).In h → Looks (model prog w) h (typeOf ov) tb)
    (d1 : o1.data = .cell (some ov)) (d2 : o2.data = .cell (some (.ref x))) (dc : oc.data = .fields vs) (dv : vs[1]? = some (.str qual t))
    (C : RClaim 32 310 prog w (hd.heap_39 w.params) p loose mean mg mb fd [.ref x, ov] (subX x dx es n yl))
    (hap : ∀ q ∈ subL f c' c1 c2 op p1 p2 p3 qual pm ctv oc o1 o2, ∀ r ∈ subX x dx es n yl, q.1 ≠ r.1) :
    RClaim 34 320 prog w (hd.heap_39 w.params) p loose mean mg mb f [] (subL f c' c1 c2 op p1 p2 p3 qual pm ctv oc o1 o2 ++ subX x dx es n yl) := by
  intro dp un gd cn cs a ccd cl outer A₀ base h₀ L m s Q E
  revert hmk
  k_fill
  intro _ B F X N T hk hd hu hret
  have N0 : News h₀ L s.heap ((f, kla_obj "<lambda>" qual parL (bodyL op p1 p2 p3) scL [("other", c1), ("one", c2)] pm c' ctv) :: (c', oc) :: (c1, o1) :: (c2, o2) :: (x, instObj 109 dx) :: (dx, dictOf es n) :: yl) := N
  refine wpAny_call ?_
  refine lam_codeG B F X N0 T rfl rfl hk (.head _) (codeRec_news N0 (.tail _ (.head _)) dc dv) (by ktr_room) rfl ?_ rfl rfl rfl (by decide)
  intro g' L' h' FG' F' N' B' X' T' GS
  (try dsimp only); (try k_lift B'); (try k_fold)
  k_steps
  unfold Held
  refine nameX_F (c := c2) N' rfl (by ktn_open) d2 ?_
  refine nameX_F (c := c1) N' rfl (by ktn_open) d1 ?_
  have hop' := hop (.ref x) ov
  rw [hop']
  have NX : News g' L' h' (subX x dx es n yl) := fun q hq => N' q (by exact .tail _ (.tail _ (.tail _ (.tail _ hq))))
  refine cmp_K (by ktr_units) F' X' (InstAt.of_news N' (h1 := by ktn_open) (h2 := by ktn_open)) (hty NX (X'.keeps F'.keep)) hn hs hfn ?_
  refine C _ _ _ _ _ _ _ _ _ _ _ _ _ _ _ _ _ B' F' X' NX T' rfl (by ktr_room) (by ktr_units) ?_
  intro G3 e3 h3 tk3 F3 GS3 R3 U3
  have NM : News g' L' G3 (subL f c' c1 c2 op p1 p2 p3 qual pm ctv oc o1 o2) := fun q hq => by
    have z := N' q (List.mem_append_left (subX x dx es n yl) hq)
    refine ⟨GS3 _ _ z.1 fun hm => ?_, z.2⟩
    obtain ⟨r, hr, e⟩ := List.mem_map.mp hm
    exact hap q hq r hr e.symm
  obtain ⟨F4, R4, U4⟩ := widenN R3 U3 B' F3 NM rfl
  refine leave_onXN B' F4 R4 U4 rfl fun h9 R9 U9 => ?_
  exact hret _ _ _ _ FG' GS R9 U9
end Mine
end
section
open PySem PySem.W PySem.Spec PySem.Calls PyProof.Rows
namespace Mine
set_option maxRecDepth 100000
/-- how an iterator of the ledger draws -/
def DrawsLed (prog : Program) (w : World) (it : Addr) (isIt : Obj → Nat → Prop) (items : List Value) (Src : Led → Prop) : Prop :=
  ∀ (A : Around) (E : Value → Shared → Prop) (s : Shared) (g : Heap) (L : Addr) (m : Str → Option Value) (led : Led) (io : Obj) (i : Nat), A.handled = none → Fr g L s.heap m → News g L s.heap ((it, io) :: led) → (∀ p ∈ led, p.1 ≠ it) → Src led → isIt io i →
    (∀ v, items[i]? = some v → ∀ Q : Option Value → Shared → Prop, (∀ h' io', Fr g L h' m → News g L h' ((it, io') :: led) → isIt io' (i + 1) → Q (some v) { s with heap := h' }) → wpAny (model prog w) A (pyNext (.ref it)) Q E s) ∧
    (items[i]? = none → ∀ Q : Option Value → Shared → Prop, (∀ h', Fr g L h' m → News g L h' led → Q none { s with heap := h' }) → wpAny (model prog w) A (pyNext (.ref it)) Q E s)
theorem fr_but {g h h' : Heap} {L it : Addr} {m : Str → Option Value} (F : Fr g L h m) (hs : Heap.SameBut it h h') (h1 : it ≠ L) (h2 : g.get? it = none) : Fr g L h' m :=
  ⟨F.ns.sameBut hs (Ne.symm h1), fun b ob e => (hs.2 b (fun q => by rw [q, h2] at e; cases e)).trans (F.keep b ob e), F.above⟩
theorem fr_ext {g h h' : Heap} {L it : Addr} {m : Str → Option Value} (F : Fr g L h m) (hs : Heap.ExtBut it h h') (h1 : it ≠ L) (h2 : g.get? it = none) : Fr g L h' m :=
  ⟨F.ns.extBut hs (Ne.symm h1), fun b ob e => hs b ob (fun q => by rw [q, h2] at e; cases e) (F.keep b ob e), F.above⟩
def tupIt (D : Addr) (o : Obj) (i : Nat) : Prop := o.cls = .type "tuple_iterator" ∧ o.data = .fields #[.ref D, .int i 0]
def lstIt (D : Addr) (o : Obj) (i : Nat) : Prop := o.cls = .type "list_iterator" ∧ o.data = .fields #[.ref D, .int i 0]
theorem draws_tup {prog : Program} {w : World} {it D : Addr} {items : List Value} {n : Nat} :
    DrawsLed prog w it (tupIt D) items (fun led => (D, ({ cls := .type "tuple", data := .seq items.toArray n } : Obj)) ∈ led) := by
  intro A E s g L m led io i hh F N ne hsrc hio
  have hN := N (it, io) (.head _)
  have hD := N _ (List.mem_cons_of_mem _ hsrc)
  have ht : IsTup s.heap D items.toArray := ⟨_, hD.1, rfl, n, rfl⟩
  have hit : IsTupIter s.heap it D i := ⟨io, hN.1, hio.1, hio.2⟩
  refine ⟨fun v hv Q hQ => ?_, fun hv Q hQ => ?_⟩
  · refine next_tuple_item hit ht (x := v) (by simpa using hv) fun h' hi hs => ?_
    obtain ⟨io', h1, h2, h3⟩ := hi
    exact hQ h' io' (fr_but F hs hN.2.1 hN.2.2) (News.setAt (own := []) N (fun _ h => nomatch h) ne hs h1) ⟨h2, h3⟩
  · refine next_tuple_end hh hit ht (by simpa using hv) fun h' hs => ?_
    exact hQ h' (fr_ext F hs hN.2.1 hN.2.2) fun p hp => ⟨hs _ _ (ne p hp) (N p (.tail _ hp)).1, (N p (.tail _ hp)).2⟩
theorem draws_lst {prog : Program} {w : World} {it D : Addr} {items : List Value} {n : Nat} :
    DrawsLed prog w it (lstIt D) items (fun led => (D, listOf items.toArray n) ∈ led) := by
  intro A E s g L m led io i hh F N ne hsrc hio
  have hN := N (it, io) (.head _)
  have hD := N _ (List.mem_cons_of_mem _ hsrc)
  have ht : s.heap.IsList D items.toArray := ⟨_, hD.1, rfl, n, rfl⟩
  have hit : s.heap.IsListIter it D i := ⟨io, hN.1, hio.1, hio.2⟩
  refine ⟨fun v hv Q hQ => ?_, fun hv Q hQ => ?_⟩
  · refine wpAny_pyNext_list_item hit ht (x := v) (by simpa using hv) fun h' hi hs => ?_
    obtain ⟨io', h1, h2, h3⟩ := hi
    exact hQ h' io' (fr_but F hs hN.2.1 hN.2.2) (News.setAt (own := []) N (fun _ h => nomatch h) ne hs h1) ⟨h2, h3⟩
  · refine wpAny_pyNext_list_end hh hit ht (by simpa using hv) fun h' hs => ?_
    exact hQ h' (fr_ext F hs hN.2.1 hN.2.2) fun p hp => ⟨hs _ _ (ne p hp) (N p (.tail _ hp)).1, (N p (.tail _ hp)).2⟩
/-- a loop over an iterator of the ledger -/
theorem for_led {prog : Program} {w : World} {A : Around} {env : Env} {L it : Addr} {isIt : Obj → Nat → Prop} {items : List Value} {Src : Led → Prop} {s : Shared} {R : Result → Shared → Prop} {target : Expr} {body orelse : List Stmt} {g₀ : Heap} {m₀ : Str → Option Value} {led₀ : Led} {io₀ : Obj}
    (IL : DrawsLed prog w it isIt items Src) (hA : A.handled = none) (St : Nat → Heap → (Str → Option Value) → Led → Prop) (hsrc : ∀ i g m led, St i g m led → Src led)
    (turn : ∀ i v g m led io h tk, items[i]? = some v → St i g m led → Fr g L h m → News g L h ((it, io) :: led) → (∀ p ∈ led, p.1 ≠ it) → isIt io (i + 1) →
      wpAny (model prog w) A (letOwnedTupleGo target (.ref it) v) (fun _ s₁' =>
        wpAny (model prog w) A (assign target env v) (fun _ s₂ => wpAny (model prog w) A (execs body env) (fun f s₃ => match f with
          | .next | .cont => ∃ g' m' led' h' tk', St (i + 1) g' m' led' ∧ Fr g' L h' m' ∧ News g' L h' ((it, io) :: led') ∧ (∀ p ∈ led', p.1 ≠ it) ∧ s₃ = { s with heap := h', toks := tk' }
          | .brk => R (.ok .next) s₃
          | .ret v => R (.ok (.ret v)) s₃) (notedBy (model prog w) A env fun e s' => R (.error e) s') s₂) (notedBy (model prog w) A env fun e s' => R (.error e) s') s₁') (notedBy (model prog w) A env fun e s' => R (.error e) s') { s with heap := h, toks := tk })
    (fin : ∀ g m led h tk, St items.length g m led → Fr g L h m → News g L h led →
      wpAny (model prog w) A (execs orelse env) (fun f s₃ => R (.ok f) s₃) (notedBy (model prog w) A env fun e s' => R (.error e) s') { s with heap := h, toks := tk })
    (F : Fr g₀ L s.heap m₀) (N : News g₀ L s.heap ((it, io₀) :: led₀)) (ne : ∀ p ∈ led₀, p.1 ≠ it) (hio : isIt io₀ 0) (h0 : St 0 g₀ m₀ led₀) :
    codeAny (model prog w) A (.forLoop target (.ref it) body orelse env) R s := by
  refine codeAny_forLoop_any (fun n s' => ∃ i g m led io h tk, n + i = items.length ∧ St i g m led ∧ Fr g L h m ∧ News g L h ((it, io) :: led) ∧ (∀ p ∈ led, p.1 ≠ it) ∧ isIt io i ∧ s' = { s with heap := h, toks := tk })
    (fun n s' hI => ?_) items.length ⟨0, g₀, m₀, led₀, io₀, s.heap, s.toks, rfl, h0, F, N, ne, hio, rfl⟩
  obtain ⟨i, g, m, led, io, h, tk, hn, hst, F, N, ne, hio, rfl⟩ := hI
  obtain ⟨hitem, hend⟩ := IL A (notedBy (model prog w) A env fun e s' => R (.error e) s') { s with heap := h, toks := tk } g L m led io i hA F N ne (hsrc _ _ _ _ hst) hio
  by_cases hi : i < items.length
  · have hv : items[i]? = some items[i] := List.getElem?_eq_getElem hi
    refine hitem _ hv _ fun h' io' F' N' hio' => ?_
    refine wpAny_mono (turn i _ g m led io' h' tk hv hst F' N' ne hio') (fun _ s₁ h₁ => ?_) fun _ _ e => e
    refine wpAny_mono h₁ (fun _ s₂ h₂ => ?_) fun _ _ e => e
    refine wpAny_mono h₂ (fun f s₃ h₃ => ?_) fun _ _ e => e
    cases f with
    | next =>
      obtain ⟨g', m', led', h', tk', a, b, c, d, e⟩ := h₃
      exact ⟨n - 1, by omega, i + 1, g', m', led', io', h', tk', by omega, a, b, c, d, hio', e⟩
    | cont =>
      obtain ⟨g', m', led', h', tk', a, b, c, d, e⟩ := h₃
      exact ⟨n - 1, by omega, i + 1, g', m', led', io', h', tk', by omega, a, b, c, d, hio', e⟩
    | brk => exact h₃
    | ret v => exact h₃
  · have hi' : i = items.length := by omega
    subst hi'
    refine hend (by simp) _ fun h' F' N' => ?_
    exact fin g m led h' tk hst F' N'
/-- an iterator over a tuple of the ledger -/
theorem iter_tup_led {prog : Program} {w : World} {A : Around} {E : Value → Shared → Prop} {s : Shared} {g : Heap} {L D : Addr} {m : Str → Option Value} {led : Led} {items : List Value} {n : Nat} {Q : Value → Shared → Prop} (F : Fr g L s.heap m) (N : News g L s.heap led)
    (hD : (D, ({ cls := .type "tuple", data := .seq items.toArray n } : Obj)) ∈ led)
    (h : ∀ it io h', Fr g L h' m → News g L h' ((it, io) :: led) → tupIt D io 0 → (∀ p ∈ led, p.1 < it) → Q (.ref it) { s with heap := h' }) : wpAny (model prog w) A (pyIter (.ref D)) Q E s := by
  refine iter_tuple (items := items.toArray) ⟨_, (N _ hD).1, rfl, n, rfl⟩ ?_
  have F2 := F.push ({ cls := .type "tuple_iterator", data := .fields #[.ref D, .int 0 0] } : Obj)
  exact h _ _ _ F2 (News.more F2 (fun p hp => ⟨Heap.get?_push_of_some _ (N p hp).1, (N p hp).2⟩) (Heap.get?_push_size _ rfl) (fun es n q => by cases q) (none_at_end F)) ⟨rfl, rfl⟩ fun p hp => Heap.lt_size (N p hp).1
theorem iter_lst_led {prog : Program} {w : World} {A : Around} {E : Value → Shared → Prop} {s : Shared} {g : Heap} {L D : Addr} {m : Str → Option Value} {led : Led} {items : List Value} {n : Nat} {Q : Value → Shared → Prop} (F : Fr g L s.heap m) (N : News g L s.heap led)
    (hD : (D, listOf items.toArray n) ∈ led)
    (h : ∀ it io h', Fr g L h' m → News g L h' ((it, io) :: led) → lstIt D io 0 → (∀ p ∈ led, p.1 < it) → Q (.ref it) { s with heap := h' }) : wpAny (model prog w) A (pyIter (.ref D)) Q E s := by
  refine wpAny_pyIter_list (items := items.toArray) ⟨_, (N _ hD).1, rfl, n, rfl⟩ ?_
  have F2 := F.push ({ cls := .type "list_iterator", data := .fields #[.ref D, .int 0 0] } : Obj)
  exact h _ _ _ F2 (News.more F2 (fun p hp => ⟨Heap.get?_push_of_some _ (N p hp).1, (N p hp).2⟩) (Heap.get?_push_size _ rfl) (fun es n q => by cases q) (none_at_end F)) ⟨rfl, rfl⟩ fun p hp => Heap.lt_size (N p hp).1
theorem news_mid {g h : Heap} {L : Addr} {pre post : Led} {a : Addr × Obj} (N : News g L h (pre ++ a :: post)) : News g L h (a :: (pre ++ post)) := fun p hp => N p (by
  rcases List.mem_cons.mp hp with rfl | hp
  · exact List.mem_append_right _ (.head _)
  · rcases List.mem_append.mp hp with hp | hp
    · exact List.mem_append_left _ hp
    · exact List.mem_append_right _ (.tail _ hp))
/-- the ledger of the caller, after a call that changed some of it -/
theorem fin_cmp {h₀ g g' h' H1 : Heap} {env : Env} {L L' : Addr} {m' : Str → Option Value} {news fin sub0 others : Led} (hf : env.frame = some L)
    (N : News h₀ L H1 news) (GS : GSub H1 g (sub0.map fun x => x.1)) (T' : KtsTurn ([env].filterMap (·.frame)) g g') (F' : Fr g' L' h' m') (kN : News h₀ L h' fin) (hs0 : ∀ q ∈ sub0, q ∈ news) (ho : ∀ q ∈ others, q ∈ news) (hc : ∀ q ∈ others, q ∈ sub0 → q ∈ fin) :
    News h₀ L h' others ∧ ∀ q ∈ others, q ∈ sub0 ∨ g'.get? q.1 = some q.2 := by
  have way : ∀ q ∈ others, q ∈ sub0 ∨ g'.get? q.1 = some q.2 := fun q hq => by
    by_cases hm : q.1 ∈ sub0.map fun x => x.1
    · left
      obtain ⟨p0, hp0, e⟩ := List.mem_map.mp hm
      have a1 := (N p0 (hs0 p0 hp0)).1
      have a2 := (N q (ho q hq)).1
      have e' : p0.1 = q.1 := e
      rw [e', a2] at a1
      have : p0 = q := Prod.ext e' (Option.some.inj a1).symm
      exact this ▸ hp0
    · exact .inr (T'.other _ _ (GS _ _ (N q (ho q hq)).1 hm) fun hm => by
        rcases tu_mem hf hm with z | z
        · exact (N q (ho q hq)).2.1 z
        · cases z)
  refine ⟨fun q hq => ?_, way⟩
  rcases way q hq with h | h
  · exact kN q (hc q hq h)
  · exact ⟨F'.keep _ _ h, (N q (ho q hq)).2⟩
end Mine
end
section
open PySem PySem.W PyProof.Rows
namespace Mine
theorem off_LpA : True := by w_top off; exact True.intro
set_option maxRecDepth 100000
set_option linter.unusedVariables false
set_option linter.unusedSimpArgs false
set_option maxHeartbeats 8000000
local macro_rules | `(tactic| k_room) => `(tactic| ktr_room)
local macro_rules | `(tactic| k_units) => `(tactic| ktr_units)
local macro_rules | `(tactic| units_room) => `(tactic| ktr_units)
local macro_rules | `(tactic| walk_at "Exists") => `(tactic| (refine held_ ?_))
local macro_rules | `(tactic| walk_at "call builtin:list.append cons nil") => `(tactic| (k_here; refine held_ ?_))
local macro_rules | `(tactic| ktn_open) => `(tactic| (repeat (first | exact List.Mem.head _ | refine List.Mem.tail _ ?_)))
local macro_rules | `(tactic| walk_at "callWith ref") => `(tactic| (k_here; refine held_ ?_))
def stmtAt (l : List Stmt) (i : Nat) : Stmt := l.getD i (.Pass ⟨0, 0, 0, 0⟩)
def innerOf : Stmt → List Stmt
  | .FunctionDef (body := b) .. => b
  | .For (body := b) .. => b
  | _ => []
def scopeOfS : Stmt → Scope
  | .FunctionDef (scope := c) .. => c
  | _ => default
/-- the def _law_compared of the row, its scope and the body of its loop -/
abbrev stmC : Stmt := stmtAt PySem.Challenge.pw_vy0039_01.main.body 7
abbrev scC : Scope := scopeOfS stmC
abbrev envC (L' : Addr) : Env := envOfC "_law_compared" scC L' 153 (.ref 152)
abbrev bodyC : List Stmt := innerOf (stmtAt (innerOf stmC) 1)
abbrev mC (l : Addr) (dv : Option Value) (mm : Str → Option Value) : Str → Option Value := fun y => if y = "deed" then dv else if y = "found" then some (.ref l) else mm y
theorem mC_of {l : Addr} {mm : Str → Option Value} : (fun y : Str => if y = "found" then some (.ref l) else mm y) = mC l (mm "deed") mm := by
  funext y
  by_cases h : y = "deed"
  · subst h; rfl
  · simp only [mC, if_neg h]
theorem mC_set {l : Addr} {dv : Option Value} {v : Value} {mm : Str → Option Value} : (fun y : Str => if y = "deed" then some v else mC l dv mm y) = mC l (some v) mm := by
  funext y
  by_cases h : y = "deed"
  · subst h; rfl
  · simp only [mC, if_neg h]
theorem loop_ret (hmk : Marks hd.heap_39 PySem.Challenge.rw_vy0039_01) {prog : Program} {w : World} {p : Program} {loose : List Str} {mean : ExcName → Option Value} {mg mb : Str → Option Value} {fs : List (Addr × Bool)} {L' l it D : Addr} {rest : Led} {io : Obj} {n0 nD : Nat} {mm : Str → Option Value} {p0 : Pos}
  {dp un : Nat} {gd : Option (List Code)} {cn : Str} {cs : Scope} {a : Addr} {ccd : Value} {cl : List (Str × Addr)} {L : Addr} {base g' : Heap} {s : Shared} {R : Result → Shared → Prop}
  (B' : Below (ktrTop dp un gd cn cs L a ccd cl []) base (envX cn cs L a ccd cl :: []) g') (X' : (hd.heap_39 w.params).In g') (T' : Top p loose mean mg mb g') (hd1 : dp + 40 < recursionLimit) (hu1 : un + 340 < cLine)
  (F0 : Fr g' L' s.heap (fun y => if y = "found" then some (.ref l) else mm y)) (N0 : News g' L' s.heap ((it, io) :: (l, listOf #[] n0) :: rest)) (hio : tupIt D io 0)
  (hD : (D, ({ cls := .type "tuple", data := .seq (fs.map fun q => Value.ref q.1).toArray nD } : Obj)) ∈ rest) (nel : ∀ p ∈ rest, p.1 ≠ l) (nil : @Ne Nat l it) (nei : ∀ p ∈ rest, p.1 ≠ it) (hz : fs.length ≤ 100)
  (hfa : ∀ q ∈ fs, ∃ oc od fd sl, (q.1, (⟨oc, od, .func fd, sl⟩ : Obj)) ∈ rest)
  (Cs : ∀ q ∈ fs, ∀ {news' : Led}, (∀ p ∈ rest, p ∈ news') → VClaim 34 320 prog w (hd.heap_39 w.params) p loose mean mg mb q.1 [] news' (fun v => v = .bool q.2))
  (fin : ∀ h tk dv n, Fr g' L' h (mC l dv mm) → News g' L' h ((l, listOf (fs.map fun q => Value.bool q.2).toArray n) :: rest) → R (.ok .next) { s with heap := h, toks := tk }) :
  codeAny (model prog w) ((ktrTop dp un gd cn cs L a ccd cl []).deeper (envC L')) (.forLoop (.Name "deed" p0) (.ref it) bodyC [] (envC L')) R s := by
  revert hmk
  k_fill
  intro _
  unfold envC
  generalize hb : bodyC = bc
  generalize hc : scC = sc
  conv at hb => lhs; whnf
  conv at hc => lhs; whnf
  subst hb hc
  refine for_led (draws_tup (D := D) (items := fs.map fun q => Value.ref q.1) (n := nD)) rfl
    (fun i g m led => g = g' ∧ ∃ dv n, m = mC l dv mm ∧ led = (l, listOf ((fs.take i).map fun q => Value.bool q.2).toArray n) :: rest)
    (fun i g m led h => by obtain ⟨_, dv, n, _, rfl⟩ := h; exact List.mem_cons_of_mem _ hD) ?turn ?fin F0 N0 (forall_in_cons nil nei) hio ⟨rfl, mm "deed", n0, mC_of, rfl⟩
  case fin =>
    rintro g m led h tk ⟨rfl, dv, n, rfl, rfl⟩ F N
    refine wpAny_execs_nil ?_
    refine fin h tk dv n F ?_
    have e : (fs.take (fs.map fun q => Value.ref q.1).length) = fs := by rw [List.length_map]; exact List.take_length
    rw [e] at N
    exact N
  case turn =>
    rintro i v g m led io h tk hv ⟨rfl, dv, n, rfl, rfl⟩ F N ne hio
    obtain ⟨q, hq, rfl⟩ : ∃ q, fs[i]? = some q ∧ v = .ref q.1 := by
      rw [List.getElem?_map] at hv
      cases hf : fs[i]? with
      | none => rw [hf] at hv; cases hv
      | some q => rw [hf] at hv; exact ⟨q, rfl, (Option.some.inj hv).symm⟩
    have hqm : q ∈ fs := List.mem_of_getElem? hq
    have hlen : ((fs.take i).map fun q => Value.bool q.2).toArray.size + 1 ≤ 100 := by
      have := (List.getElem?_eq_some_iff.mp hq).1
      simp only [List.size_toArray, List.length_map, List.length_take]
      omega
    refine wpAny_of_eq (rfl : letOwnedTupleGo (.Name _ _) _ _ = pure ()) ?_
    obtain ⟨vs, hvs⟩ : ∃ vs, vs = ((fs.take i).map fun q => Value.bool q.2).toArray := ⟨_, rfl⟩
    rw [← hvs] at N hlen
    k_steps
    refine wpAny_Try_except ?_
    k_steps
    unfold Held
    rename Fr g L' _ _ => F2
    rename News g L' _ _ => N2
    obtain ⟨oc, od, fd, sl, hf⟩ := hfa q hqm
    refine callWith_F0 (FnAt.of N2 (List.mem_cons_of_mem _ (List.mem_cons_of_mem _ hf))) ?_
    refine Cs q hqm (fun p hp => List.mem_cons_of_mem _ (List.mem_cons_of_mem _ hp)) _ _ _ _ _ _ _ _ _ _ _ _ _ _ _ _ _ B' F2 X' N2 T' rfl (by ktr_room) (by ktr_units) ?_
    clear F2 N2
    rintro _ h3 tk3 F3 N3 rfl
    k_steps
    unfold Held
    refine append_K F3 N3 (.tail (Ne.symm nil) (.head nel)) ?_ (Nat.le_trans (Nat.le_of_succ_le hlen) (by rw [sizeLine_eq]; exact Nat.le_of_ble_eq_true rfl : 100 ≤ sizeLine))
    intro h4 F4 N4
    clear F3 N3
    k_steps
    unfold Held
    rename Fr g L' _ _ => F5
    rename News g L' _ _ => N5
    rw [mC_set] at F5
    subst hvs
    refine ⟨g, _, _, _, _, ⟨rfl, _, n + 1, rfl, ?_⟩, F5, N5, forall_in_cons nil nei, rfl⟩
    have e : fs.take (i + 1) = fs.take i ++ [q] := by rw [List.take_add_one, hq]; rfl
    rw [e, List.map_append]
    simp only [List.map_cons, List.map_nil, List.push_toArray]
end Mine
end
section
open PySem PySem.W PyProof.Rows
namespace Mine
theorem off_LpB : True := by w_top off; exact True.intro
local macro_rules | `(tactic| walk_at "no such key 0") => `(tactic| fail)
set_option maxRecDepth 100000
set_option linter.unusedVariables false
set_option linter.unusedSimpArgs false
set_option maxHeartbeats 8000000
local macro_rules | `(tactic| k_room) => `(tactic| ktr_room)
local macro_rules | `(tactic| k_units) => `(tactic| ktr_units)
local macro_rules | `(tactic| units_room) => `(tactic| ktr_units)
local macro_rules | `(tactic| walk_at "Exists") => `(tactic| (refine held_ ?_))
local macro_rules | `(tactic| walk_at "call builtin:list.append cons nil") => `(tactic| (k_here; refine held_ ?_))
local macro_rules | `(tactic| ktn_open) => `(tactic| (repeat (first | exact List.Mem.head _ | refine List.Mem.tail _ ?_)))
local macro_rules | `(tactic| walk_at "callWith ref") => `(tactic| (k_here; refine held_ ?_))
theorem tell_all {base g G H h : Heap} {env : Env} {outer : List Env} {L e : Addr} {m : Str → Option Value} {cls : Value} {rl full : Led} {A₀ : Around} (R : RaisedSN base G (env :: outer) e cls rl h) (U : G.UpToSlots h) (GS : GSub H G (rl.map fun x => x.1)) (F : Fr g L G m) (N : News g L H full) (K : Below A₀ base outer g) (hf : env.frame = some L)
    (hrl : ∀ p ∈ rl, p ∈ full) : ∃ G2 told, Fr g L G2 m ∧ RaisedSN base G2 (env :: outer) e cls told h ∧ G2.UpToSlots h ∧ ∀ g' h', News g' L h' told → News g' L h' full := by
  have NM : News g L G (full.filter fun p => decide (p.1 ∉ rl.map fun x => x.1)) := fun p hp => by
    obtain ⟨h1, h2⟩ := List.mem_filter.mp hp
    exact ⟨GS _ _ (N p h1).1 (of_decide_eq_true h2), (N p h1).2⟩
  obtain ⟨F2, R2, U2⟩ := widenN R U K F NM hf
  refine ⟨_, _, F2, R2, U2, fun g' h' N' p hp => ?_⟩
  by_cases hm : p.1 ∈ rl.map fun x => x.1
  · obtain ⟨p0, hp0, e⟩ := List.mem_map.mp hm
    have a1 := (N p0 (hrl p0 hp0)).1
    have a2 := (N p hp).1
    have e' : p0.1 = p.1 := e
    rw [e', a2] at a1
    have : p0 = p := Prod.ext e' (Option.some.inj a1).symm
    exact N' p (List.mem_append_right _ (this ▸ hp0))
  · exact N' p (List.mem_append_left _ (List.mem_filter.mpr ⟨hp, decide_eq_true hm⟩))
def Refd (vs : List Value) : Prop := ∀ v ∈ vs, ∃ t, v = .str "refused" t
theorem loop_raise (hmk : Marks hd.heap_39 PySem.Challenge.rw_vy0039_01) {prog : Program} {w : World} {p : Program} {loose : List Str} {mean : ExcName → Option Value} {mg mb : Str → Option Value} {fs : List Addr} {L' l it D : Addr} {rest : Led} {io : Obj} {n0 nD : Nat} {mm : Str → Option Value} {p0 : Pos}
  {dp un : Nat} {gd : Option (List Code)} {cn : Str} {cs : Scope} {a : Addr} {ccd : Value} {cl : List (Str × Addr)} {L : Addr} {base g' : Heap} {s : Shared} {R : Result → Shared → Prop}
  (B' : Below (ktrTop dp un gd cn cs L a ccd cl []) base (envX cn cs L a ccd cl :: []) g') (X' : (hd.heap_39 w.params).In g') (T' : Top p loose mean mg mb g') (D' : KtsDicts ((envX cn cs L a ccd cl :: []).filterMap (·.frame)) g') (XB : (hd.heap_39 w.params).In base) (TB : Top p loose mean mg mb base) (hd1 : dp + 40 < recursionLimit) (hu1 : un + 340 < cLine)
  (F0 : Fr g' L' s.heap (fun y => if y = "found" then some (.ref l) else mm y)) (N0 : News g' L' s.heap ((it, io) :: (l, listOf #[] n0) :: rest)) (hio : tupIt D io 0)
  (hD : (D, ({ cls := .type "tuple", data := .seq (fs.map Value.ref).toArray nD } : Obj)) ∈ rest) (nel : ∀ p ∈ rest, p.1 ≠ l) (nil : @Ne Nat l it) (nei : ∀ p ∈ rest, p.1 ≠ it) (hz : fs.length ≤ 100)
  (hfa : ∀ q ∈ fs, ∃ oc od fd sl, (q, (⟨oc, od, .func fd, sl⟩ : Obj)) ∈ rest)
  (Cs : ∀ q ∈ fs, ∃ rl, (∀ p ∈ rl, p ∈ rest) ∧ RClaim 34 320 prog w (hd.heap_39 w.params) p loose mean mg mb q [] rl)
  (fin : ∀ g2 h tk dv n vs, KtsTurn ((envX cn cs L a ccd cl :: []).filterMap (·.frame)) g' g2 → Fr g2 L' h (mC l dv mm) → News g2 L' h ((l, listOf vs.toArray n) :: rest) → vs.length = fs.length → Refd vs → R (.ok .next) { s with heap := h, toks := tk }) :
  codeAny (model prog w) ((ktrTop dp un gd cn cs L a ccd cl []).deeper (envC L')) (.forLoop (.Name "deed" p0) (.ref it) bodyC [] (envC L')) R s := by
  revert hmk
  k_fill
  intro _
  unfold envC
  generalize hb : bodyC = bc
  generalize hc : scC = sc
  conv at hb => lhs; whnf
  conv at hc => lhs; whnf
  subst hb hc
  refine for_led (draws_tup (D := D) (items := fs.map Value.ref) (n := nD)) rfl
    (fun i g m led => KtsTurn ((envX cn cs L a ccd cl :: []).filterMap (·.frame)) g' g ∧ Below (ktrTop dp un gd cn cs L a ccd cl []) base (envX cn cs L a ccd cl :: []) g ∧ (hd.heap_39 w.params).In g ∧ Top p loose mean mg mb g ∧ KtsDicts ((envX cn cs L a ccd cl :: []).filterMap (·.frame)) g ∧ ∃ dv n vs, m = mC l dv mm ∧ led = (l, listOf vs.toArray n) :: rest ∧ vs.length = i ∧ Refd vs)
    (fun i g m led h => by obtain ⟨_, _, _, _, _, dv, n, vs, _, rfl, _⟩ := h; exact List.mem_cons_of_mem _ hD) ?turn ?fin F0 N0 (forall_in_cons nil nei) hio ⟨KtsTurn.refl, B', X', T', D', mm "deed", n0, [], mC_of, rfl, rfl, fun _ h => nomatch h⟩
  case fin =>
    rintro g m led h tk ⟨TT, B, X, T, DD, dv, n, vs, rfl, rfl, hl, hr⟩ F N
    refine wpAny_execs_nil ?_
    exact fin g h tk dv n vs TT F N (by rw [hl, List.length_map]) hr
  case turn =>
    clear B' X' T' D' F0 N0
    rintro i v g m led io h tk hv ⟨TT, B', X', T', D', dv, n, vs, rfl, rfl, hl, hr⟩ F N ne hio
    obtain ⟨q, hq, rfl⟩ : ∃ q, fs[i]? = some q ∧ v = .ref q := by
      rw [List.getElem?_map] at hv
      cases hf : fs[i]? with
      | none => rw [hf] at hv; cases hv
      | some q => rw [hf] at hv; exact ⟨q, rfl, (Option.some.inj hv).symm⟩
    have hqm : q ∈ fs := List.mem_of_getElem? hq
    have hlen : vs.length + 1 ≤ 100 := by
      have := (List.getElem?_eq_some_iff.mp hq).1
      omega
    refine wpAny_of_eq (rfl : letOwnedTupleGo (.Name _ _) _ _ = pure ()) ?_
    k_steps
    refine wpAny_Try_except ?_
    k_steps
    unfold Held
    rename Fr g L' _ _ => F2
    rename News g L' _ _ => N2
    obtain ⟨oc, od, fd, sl, hf⟩ := hfa q hqm
    refine callWith_F0 (FnAt.of N2 (List.mem_cons_of_mem _ (List.mem_cons_of_mem _ hf))) ?_
    obtain ⟨rl, hrl, C⟩ := Cs q hqm
    refine C _ _ _ _ _ _ _ _ _ _ _ _ _ _ _ _ _ B' F2 X' (fun p hp => N2 p (.tail _ (.tail _ (hrl p hp)))) T' rfl (by ktr_room) (by ktr_units) ?_
    intro G3 e3 h3 tk3 F3 GS3 R3 U3
    obtain ⟨G4, told, F4, R4, U4, tell⟩ := tell_all R3 U3 GS3 F3 N2 B' rfl (fun p hp => .tail _ (.tail _ (hrl p hp)))
    clear R3 U3 GS3 F3 F2 N2
    k_dflt (refine' caughtXN (T' := "ValueError") R4 F4 B' U4 XB TB D' ?ex PyProof.Rows.Boot.«ValueError» ?hn PySem.F.isExc_ValueError PySem.F.notTuple_ValueError ?hs ?_; (case hs => kts_sub); (case ex => k_is); (case hn => decide); k_whole)
    intro h5 g5 T5 F5 N5' B5 X5 P5 D5
    have N5 := tell _ _ N5'
    clear N5' R4 F4 U4 X' T' B' D' tell
    (try k_lift B5); (try k_sweep)
    k_steps
    unfold Held
    refine append_K F5 N5 (.tail (Ne.symm nil) (.head nel)) ?_ (Nat.le_trans (by simp only [List.size_toArray]; exact Nat.le_of_succ_le hlen) (by rw [sizeLine_eq]; exact Nat.le_of_ble_eq_true rfl : 100 ≤ sizeLine))
    intro h6 F6 N6
    clear F5 N5
    k_steps
    unfold Held
    rename Fr g5 L' _ _ => F7
    rename News g5 L' _ _ => N7
    rw [mC_set] at F7
    refine ⟨g5, _, _, _, _, ⟨TT.trans T5, B5, X5, P5, D5, _, n + 1, vs ++ [Value.str "refused" tk3], rfl, ?_, ?_, ?_⟩, F7, N7, forall_in_cons nil nei, rfl⟩
    · simp only [List.push_toArray]
    · simp only [List.length_append, List.length_cons, List.length_nil, hl]
    · intro v hv
      rcases List.mem_append.mp hv with hv | hv
      · exact hr v hv
      · cases List.mem_singleton.mp hv
        exact ⟨_, rfl⟩
end Mine
end
section
open PySem PySem.W PyProof.Rows
namespace Mine
set_option maxRecDepth 100000
set_option linter.unusedVariables false
set_option linter.unusedSimpArgs false
set_option maxHeartbeats 8000000
local macro_rules | `(tactic| k_room) => `(tactic| ktr_room)
local macro_rules | `(tactic| k_units) => `(tactic| ktr_units)
local macro_rules | `(tactic| units_room) => `(tactic| ktr_units)
theorem apartL {g : Heap} {q : Addr × Obj} {c : Addr} {S : Prop} (way : S ∨ g.get? q.1 = some q.2) (hn : g.get? c = none) (hs : S → c ≠ q.1) : c ≠ q.1 := fun e => by
  rcases way with h | h
  · exact hs h e
  · rw [← e, hn] at h; cases h
theorem news_cons {g h : Heap} {L : Addr} {a : Addr × Obj} {l r : Led} (N : News g L h (a :: l)) (M : News g L h r) : News g L h (a :: r) := fun p hp => by
  rcases List.mem_cons.mp hp with rfl | hp
  · exact N _ (.head _)
  · exact M p hp
theorem all_mid {P : Addr × Obj → Prop} {pre post : Led} {a : Addr × Obj} (h : ∀ p ∈ pre ++ a :: post, P p) : ∀ p ∈ pre ++ post, P p := fun p hp => h p (by
  rcases List.mem_append.mp hp with hp | hp
  · exact List.mem_append_left _ hp
  · exact List.mem_append_right _ (.tail _ hp))
abbrev qualL : Str := (envC 0).qual ++ "<lambda>"
abbrev tab6 (k1 k2 k3 k4 k5 k6 : Addr) : Obj := tabObj #[rawInt ((99 : Nat) : Int), rawInt ((0 : Nat) : Int), .ref k1, rawInt ((100 : Nat) : Int), rawInt ((0 : Nat) : Int), .ref k2, rawInt ((101 : Nat) : Int), rawInt ((0 : Nat) : Int), .ref k3, rawInt ((102 : Nat) : Int), rawInt ((0 : Nat) : Int), .ref k4, rawInt ((103 : Nat) : Int), rawInt ((0 : Nat) : Int), .ref k5, rawInt ((104 : Nat) : Int), rawInt ((0 : Nat) : Int), .ref k6]
def CodeL (o : Obj) : Prop := ∃ vs t, o.data = .fields vs ∧ vs[1]? = some (.str qualL t)
abbrev tabLed (k1 k2 k3 k4 k5 k6 : Addr) (q1 q2 q3 q4 q5 q6 : Obj) : Led := [(148, tab6 k1 k2 k3 k4 k5 k6), (k1, q1), (k2, q2), (k3, q3), (k4, q4), (k5, q5), (k6, q6)]
/-- the table of the lambdas' codes: empty, or filled -/
def LamTab (TB : Led) : Prop := TB = [(148, tabObj #[])] ∨ ∃ k1 k2 k3 k4 k5 k6 q1 q2 q3 q4 q5 q6, CodeL q1 ∧ CodeL q2 ∧ CodeL q3 ∧ CodeL q4 ∧ CodeL q5 ∧ CodeL q6 ∧ TB = tabLed k1 k2 k3 k4 k5 k6 q1 q2 q3 q4 q5 q6
end Mine
end
section
open PySem PySem.W PyProof.Rows
namespace Mine
theorem off_C_e_ret : True := by w_top off; exact True.intro
local macro_rules | `(tactic| walk_at "no such key 0") => `(tactic| fail)
set_option maxRecDepth 100000
set_option linter.unusedVariables false
set_option linter.unusedSimpArgs false
set_option maxHeartbeats 8000000
local macro_rules | `(tactic| k_room) => `(tactic| ktr_room)
local macro_rules | `(tactic| k_units) => `(tactic| ktr_units)
local macro_rules | `(tactic| units_room) => `(tactic| ktr_units)
local macro_rules | `(tactic| k_updF) => `(tactic| first | exact UpdF.head (by assumption) | (refine' UpdF.tail ?a ?b; (case a => k_ne); (case b => k_updF)))
local macro_rules | `(tactic| walk_at "eval Lambda") => `(tactic| (k_here; refine held_ ?_))
local macro_rules | `(tactic| walk_at "exec For") => `(tactic| (k_here; refine held_ ?_))
local macro_rules | `(tactic| walk_at "exec For Name Tuple cons nil") => `(tactic| (k_here; refine held_ ?_))
local macro_rules | `(tactic| walk_at "pyIter ref") => `(tactic| (k_here; refine held_ ?_))
local macro_rules | `(tactic| ktn_open) => `(tactic| (repeat (first | exact List.Mem.head _ | refine List.Mem.tail _ ?_)))
theorem cmpd_ret_e (hmk : Marks hd.heap_39 PySem.Challenge.rw_vy0039_01) {prog : Program} {w : World} {p : Program} {loose : List Str} {mean : ExcName → Option Value} {mg mb : Str → Option Value} {x dx : Addr} {es : List DictEntry} {n : Nat} {ov tbv : Value} {yl others : Led} (hcm : getL "_cmp" es = some none)
  (hn : notFirst (hd.heap_39 w.params) 109 tbv = true) (hty : ∀ {g L h}, News g L h (subX x dx es n yl) → (hd.heap_39 w.params).In h → Looks (model prog w) h (typeOf ov) tbv) (h148 : ∀ p ∈ (subX x dx es n yl), p.1 ≠ 148)
  (ho : ∀ q ∈ subX x dx es n yl, q ∈ others) (hap : ∀ q ∈ others, ∀ p ∈ ([(148, tabObj #[])] : Led), p.1 ≠ q.1)
  (C : ∀ {news' : Led}, (∀ q ∈ subX x dx es n yl, q ∈ news') → VClaim 30 300 prog w (hd.heap_39 w.params) p loose mean mg mb 56 [.ref x, ov] news' (fun v => ∃ t, v = .int 0 t))
  (dp un : Nat) (gd : Option (List Code)) (cn : Str) (cs : Scope) (a : Addr) (ccd : Value) (cl : List (Str × Addr)) (A₀ : Around) (h₀ : Heap) (L : Addr) (m : Str → Option Value) (s : Shared) (Q E : Value → Shared → Prop) :
  Below A₀ h₀ [] h₀ → Fr h₀ L s.heap m → (hd.heap_39 w.params).In h₀ → CodeHd h₀ 152 148 → News h₀ L s.heap ([(148, tabObj #[])] ++ others) → Top p loose mean mg mb h₀ → cs.kind = .function → dp + 50 < recursionLimit → un + 360 < cLine →
  (∀ l nl TB' h' tk', LamTab TB' → Fr h₀ L h' m → News h₀ L h' ((l, listOf #[.bool true, .bool false, .bool false, .bool false, .bool true, .bool true] nl) :: (TB' ++ others)) → (∀ q ∈ others, ∀ p ∈ TB', p.1 ≠ q.1) → (∀ q ∈ TB' ++ others, q.1 ≠ l) → Q (.ref l) { s with heap := h', toks := tk' }) →
  wpAny (model prog w) (ktrTop dp un gd cn cs L a ccd cl []) (call (.ref 153) [.ref x, ov]) Q E s := by
  revert hmk
  k_fill
  intro hmk' B F X C0 N T hk hd hu hret
  have D0 : KtsDicts (([] : List Env).filterMap (·.frame)) h₀ := ktsDicts_nil
  have N0 : News h₀ L s.heap ((148, tabObj #[]) :: (x, instObj 109 dx) :: (dx, dictOf es n) :: yl) := fun q hq => N q (by
    rcases List.mem_append.mp (show q ∈ [(148, tabObj #[])] ++ subX x dx es n yl from hq) with h | h
    · exact List.mem_append_left _ h
    · exact List.mem_append_right _ (ho q h))
  refine wpAny_call ?_
  k_dflt (refine' code_cellsT ?k1 ?k2 ?k3 N0 ?k5 D0 ?kA ?kF ?kK ?k6 ?k7 ?k8 ?k9 ?kB ?kD ?_ ?c2 ?c3 ?c4; (case kA => exact rfl); (case kF => exact rfl); (case kK => assumption); (case k1 => k_asm); (case k2 => k_asm); (case k3 => k_asm); (case k5 => k_asm); (case k6 => k_is); (case k7 => k_is); (case k8 => ktr_room); (case k9 => exact BindsTo.of_eq rfl); (case kB => exact fun _ => forall_in_cons (.inr ⟨rfl, rfl⟩) (forall_in_cons (.inr ⟨rfl, rfl⟩) forall_in_nil)); (case kD => decide +kernel); (case c2 => exact rfl); (case c3 => exact rfl); (case c4 => exact rfl); k_whole; intro g' L' h' tk' cells' FG' F' N' Y' B' X' T' GS D' l1; (have b0 := l1); (try k_lt l1); (obtain ⟨o1, o2, hE, d1, d2⟩ := CellsAre.two Y'); subst hE; clear Y'; (try simp only [List.cons_append, List.nil_append] at N'); (try dsimp only); (try k_lift B'); (try k_fold))
  have dd1 : o1.data = .cell (some ov) := d1
  have dd2 : o2.data = .cell (some (.ref x)) := d2
  clear d1 d2
  have CH : CodeHd g' 152 148 := C0.keeps B'.stays
  k_steps
  unfold Held
  refine wpAny_For ?_
  k_steps
  rename_i l _ bl _ F1 N1
  unfold Held
  rename Fr g' L' _ _ => FX
  rename News g' L' _ _ => NX
  refine kla_eval rfl ?_
  k_dflt (refine' kla_nest FX NX T' CH rfl ?U ?t ?n rfl ?_; (case U => k_updF); (case t => kn_triples); (case n => kn_among); k_whole)
  intro f1 c1 oc1 vs1 t1 ct1 h1 tk1 F1 N1 da1 db1 b1 u1
  (try dsimp only at N1); (try simp only [List.append_toArray, List.cons_append, List.nil_append] at N1)
  have bb1 := b1
  have uu1 := u1
  k_lt bb1
  k_lt2 uu1
  clear FX NX
  k_steps
  unfold Held
  rename Fr g' L' _ _ => FX
  rename News g' L' _ _ => NX
  refine kla_eval rfl ?_
  k_dflt (refine' kla_nest FX NX T' CH rfl ?U ?t ?n rfl ?_; (case U => k_updF); (case t => kn_triples); (case n => kn_among); k_whole)
  intro f2 c2 oc2 vs2 t2 ct2 h2 tk2 F2 N2 da2 db2 b2 u2
  (try dsimp only at N2); (try simp only [List.append_toArray, List.cons_append, List.nil_append] at N2)
  have bb2 := b2
  have uu2 := u2
  k_lt bb2
  k_lt2 uu2
  clear FX NX
  k_steps
  unfold Held
  rename Fr g' L' _ _ => FX
  rename News g' L' _ _ => NX
  refine kla_eval rfl ?_
  k_dflt (refine' kla_nest FX NX T' CH rfl ?U ?t ?n rfl ?_; (case U => k_updF); (case t => kn_triples); (case n => kn_among); k_whole)
  intro f3 c3 oc3 vs3 t3 ct3 h3 tk3 F3 N3 da3 db3 b3 u3
  (try dsimp only at N3); (try simp only [List.append_toArray, List.cons_append, List.nil_append] at N3)
  have bb3 := b3
  have uu3 := u3
  k_lt bb3
  k_lt2 uu3
  clear FX NX
  k_steps
  unfold Held
  rename Fr g' L' _ _ => FX
  rename News g' L' _ _ => NX
  refine kla_eval rfl ?_
  k_dflt (refine' kla_nest FX NX T' CH rfl ?U ?t ?n rfl ?_; (case U => k_updF); (case t => kn_triples); (case n => kn_among); k_whole)
  intro f4 c4 oc4 vs4 t4 ct4 h4 tk4 F4 N4 da4 db4 b4 u4
  (try dsimp only at N4); (try simp only [List.append_toArray, List.cons_append, List.nil_append] at N4)
  have bb4 := b4
  have uu4 := u4
  k_lt bb4
  k_lt2 uu4
  clear FX NX
  k_steps
  unfold Held
  rename Fr g' L' _ _ => FX
  rename News g' L' _ _ => NX
  refine kla_eval rfl ?_
  k_dflt (refine' kla_nest FX NX T' CH rfl ?U ?t ?n rfl ?_; (case U => k_updF); (case t => kn_triples); (case n => kn_among); k_whole)
  intro f5 c5 oc5 vs5 t5 ct5 h5 tk5 F5 N5 da5 db5 b5 u5
  (try dsimp only at N5); (try simp only [List.append_toArray, List.cons_append, List.nil_append] at N5)
  have bb5 := b5
  have uu5 := u5
  k_lt bb5
  k_lt2 uu5
  clear FX NX
  k_steps
  unfold Held
  rename Fr g' L' _ _ => FX
  rename News g' L' _ _ => NX
  refine kla_eval rfl ?_
  k_dflt (refine' kla_nest FX NX T' CH rfl ?U ?t ?n rfl ?_; (case U => k_updF); (case t => kn_triples); (case n => kn_among); k_whole)
  intro f6 c6 oc6 vs6 t6 ct6 h6 tk6 F6 N6 da6 db6 b6 u6
  (try dsimp only at N6); (try simp only [List.append_toArray, List.cons_append, List.nil_append] at N6)
  have bb6 := b6
  have uu6 := u6
  k_lt bb6
  k_lt2 uu6
  clear FX NX
  k_steps
  unfold Held
  rename Fr g' L' _ _ => FX
  rename News g' L' _ _ => NX
  refine iter_tup_led (items := [.ref f1, .ref f2, .ref f3, .ref f4, .ref f5, .ref f6]) FX NX (.head _) ?_
  intro it io h8 F8 N8 hio bit
  have NL := news_mid (pre := [_, _, _, _, _, _, _, _, _, _, _, _, _]) (fun p hp => N8 p (.tail _ hp))
  simp only [List.cons_append, List.nil_append] at NL
  have NM := news_cons N8 NL
  have NMb := all_mid (pre := [_, _, _, _, _, _, _, _, _, _, _, _, _]) bit
  simp only [List.cons_append, List.nil_append] at NMb
  refine loop_ret (fs := [(f1, true), (f2, false), (f3, false), (f4, false), (f5, true), (f6, true)]) hmk' B' X' T' (by omega) (by omega) F8 NM hio (by ktn_open) (by k_all) (Nat.ne_of_lt (bit (l, listOf #[] 0) (by ktn_open))) (fun p hp => Nat.ne_of_lt (NMb p hp)) (Nat.le_of_ble_eq_true rfl) (forall_in_cons ⟨_, _, _, _, by ktn_open⟩ (forall_in_cons ⟨_, _, _, _, by ktn_open⟩ (forall_in_cons ⟨_, _, _, _, by ktn_open⟩ (forall_in_cons ⟨_, _, _, _, by ktn_open⟩ (forall_in_cons ⟨_, _, _, _, by ktn_open⟩ (forall_in_cons ⟨_, _, _, _, by ktn_open⟩ (forall_in_nil))))))) ?Cs ?fin
  case Cs => 
    exact forall_in_cons (fun hr => lam_ret hmk' (op := .Eq) (fd := 63) (fun _ _ => rfl) (by k_is) (by k_is) hn hty dd1 dd2 da1 db1 (d_ret_eq hmk' hcm C) (forall_in_cons (hr _ (by ktn_open)) (forall_in_cons (hr _ (by ktn_open)) (forall_in_cons (hr _ (by ktn_open)) (forall_in_cons (hr _ (by ktn_open)) (fun q hq => hr q (.tail _ (.tail _ (.tail _ (.tail _ (.tail _ (.tail _ (.tail _ (.tail _ (.tail _ (.tail _ (.tail _ (.tail _ (.tail _ (.tail _ (.tail _ (.tail _ (hq))))))))))))))))))))))) (forall_in_cons (fun hr => lam_ret hmk' (op := .NotEq) (fd := 70) (fun _ _ => rfl) (by k_is) (by k_is) hn hty dd1 dd2 da2 db2 (d_ret_ne hmk' hcm C) (forall_in_cons (hr _ (by ktn_open)) (forall_in_cons (hr _ (by ktn_open)) (forall_in_cons (hr _ (by ktn_open)) (forall_in_cons (hr _ (by ktn_open)) (fun q hq => hr q (.tail _ (.tail _ (.tail _ (.tail _ (.tail _ (.tail _ (.tail _ (.tail _ (.tail _ (.tail _ (.tail _ (.tail _ (.tail _ (.tail _ (.tail _ (.tail _ (hq))))))))))))))))))))))) (forall_in_cons (fun hr => lam_ret hmk' (op := .Lt) (fd := 77) (fun _ _ => rfl) (by k_is) (by k_is) hn hty dd1 dd2 da3 db3 (d_ret_lt hmk' hcm C) (forall_in_cons (hr _ (by ktn_open)) (forall_in_cons (hr _ (by ktn_open)) (forall_in_cons (hr _ (by ktn_open)) (forall_in_cons (hr _ (by ktn_open)) (fun q hq => hr q (.tail _ (.tail _ (.tail _ (.tail _ (.tail _ (.tail _ (.tail _ (.tail _ (.tail _ (.tail _ (.tail _ (.tail _ (.tail _ (.tail _ (.tail _ (.tail _ (hq))))))))))))))))))))))) (forall_in_cons (fun hr => lam_ret hmk' (op := .Gt) (fd := 84) (fun _ _ => rfl) (by k_is) (by k_is) hn hty dd1 dd2 da4 db4 (d_ret_gt hmk' hcm C) (forall_in_cons (hr _ (by ktn_open)) (forall_in_cons (hr _ (by ktn_open)) (forall_in_cons (hr _ (by ktn_open)) (forall_in_cons (hr _ (by ktn_open)) (fun q hq => hr q (.tail _ (.tail _ (.tail _ (.tail _ (.tail _ (.tail _ (.tail _ (.tail _ (.tail _ (.tail _ (.tail _ (.tail _ (.tail _ (.tail _ (.tail _ (.tail _ (hq))))))))))))))))))))))) (forall_in_cons (fun hr => lam_ret hmk' (op := .LtE) (fd := 91) (fun _ _ => rfl) (by k_is) (by k_is) hn hty dd1 dd2 da5 db5 (d_ret_le hmk' hcm C) (forall_in_cons (hr _ (by ktn_open)) (forall_in_cons (hr _ (by ktn_open)) (forall_in_cons (hr _ (by ktn_open)) (forall_in_cons (hr _ (by ktn_open)) (fun q hq => hr q (.tail _ (.tail _ (.tail _ (.tail _ (.tail _ (.tail _ (.tail _ (.tail _ (.tail _ (.tail _ (.tail _ (.tail _ (.tail _ (.tail _ (.tail _ (.tail _ (hq))))))))))))))))))))))) (forall_in_cons (fun hr => lam_ret hmk' (op := .GtE) (fd := 98) (fun _ _ => rfl) (by k_is) (by k_is) hn hty dd1 dd2 da6 db6 (d_ret_ge hmk' hcm C) (forall_in_cons (hr _ (by ktn_open)) (forall_in_cons (hr _ (by ktn_open)) (forall_in_cons (hr _ (by ktn_open)) (forall_in_cons (hr _ (by ktn_open)) (fun q hq => hr q (.tail _ (.tail _ (.tail _ (.tail _ (.tail _ (.tail _ (.tail _ (.tail _ (.tail _ (.tail _ (.tail _ (.tail _ (.tail _ (.tail _ (.tail _ (.tail _ (hq))))))))))))))))))))))) (forall_in_nil))))))
  case fin =>
    intro h9 tk9 dv9 n9 F9 N9
    k_steps
    rename Fr g' L' _ _ => FA
    rename News g' L' _ _ => NA
    refine ⟨g', L', _, _, KtsTurn.refl, FA, NA, fun h₀' T₀ kF kN kB => ?_⟩
    obtain ⟨kF2, kN2⟩ := turn_back T₀ kF kN
    kts_tail
    have bX : ∀ r ∈ subX x dx es n yl, r.1 < l := fun r hr => Nat.lt_trans (b0 r (.tail _ (hr))) (by omega)
    obtain ⟨hO, way⟩ := fin_cmp (env := envX cn cs L a ccd cl) (others := others) rfl N GS KtsTurn.refl FA kN2 (fun q hq => by
      rcases List.mem_append.mp (show q ∈ [(148, tabObj #[])] ++ subX x dx es n yl from hq) with h | h
      · exact List.mem_append_left _ h
      · exact List.mem_append_right _ (ho q h)) (fun q hq => List.mem_append_right _ hq) (fun q hq hm => by
      rcases List.mem_append.mp (show q ∈ [(148, tabObj #[])] ++ subX x dx es n yl from hm) with h | h
      · exact absurd rfl (hap q hq q h)
      · exact .tail _ (.tail _ (.tail _ (.tail _ (.tail _ (.tail _ (.tail _ (.tail _ (.tail _ (.tail _ (.tail _ (.tail _ (.tail _ (.tail _ (.tail _ (.tail _ (.tail _ (h))))))))))))))))))
    have apn : ∀ q ∈ others, ∀ p ∈ (tabLed c1 c2 c3 c4 c5 c6 oc1 oc2 oc3 oc4 oc5 oc6 : Led), p.1 ≠ q.1 := fun q hq => by
      refine forall_in_cons (hap q hq (148, tabObj #[]) (.head _)) ?_
      refine forall_in_cons (apartL (way q hq) (NA (c1, oc1) (by ktn_open)).2.2 (fun hm => by
        rcases List.mem_append.mp (show q ∈ [(148, tabObj #[])] ++ subX x dx es n yl from hm) with h | h
        · exact absurd rfl (hap q hq q h)
        · exact Nat.ne_of_gt (b1 q (.tail _ (.tail _ (.tail _ (.tail _ (h)))))))) ?_
      refine forall_in_cons (apartL (way q hq) (NA (c2, oc2) (by ktn_open)).2.2 (fun hm => by
        rcases List.mem_append.mp (show q ∈ [(148, tabObj #[])] ++ subX x dx es n yl from hm) with h | h
        · exact absurd rfl (hap q hq q h)
        · exact Nat.ne_of_gt (b2 q (.tail _ (.tail _ (.tail _ (.tail _ (.tail _ (.tail _ (h)))))))))) ?_
      refine forall_in_cons (apartL (way q hq) (NA (c3, oc3) (by ktn_open)).2.2 (fun hm => by
        rcases List.mem_append.mp (show q ∈ [(148, tabObj #[])] ++ subX x dx es n yl from hm) with h | h
        · exact absurd rfl (hap q hq q h)
        · exact Nat.ne_of_gt (b3 q (.tail _ (.tail _ (.tail _ (.tail _ (.tail _ (.tail _ (.tail _ (.tail _ (h)))))))))))) ?_
      refine forall_in_cons (apartL (way q hq) (NA (c4, oc4) (by ktn_open)).2.2 (fun hm => by
        rcases List.mem_append.mp (show q ∈ [(148, tabObj #[])] ++ subX x dx es n yl from hm) with h | h
        · exact absurd rfl (hap q hq q h)
        · exact Nat.ne_of_gt (b4 q (.tail _ (.tail _ (.tail _ (.tail _ (.tail _ (.tail _ (.tail _ (.tail _ (.tail _ (.tail _ (h)))))))))))))) ?_
      refine forall_in_cons (apartL (way q hq) (NA (c5, oc5) (by ktn_open)).2.2 (fun hm => by
        rcases List.mem_append.mp (show q ∈ [(148, tabObj #[])] ++ subX x dx es n yl from hm) with h | h
        · exact absurd rfl (hap q hq q h)
        · exact Nat.ne_of_gt (b5 q (.tail _ (.tail _ (.tail _ (.tail _ (.tail _ (.tail _ (.tail _ (.tail _ (.tail _ (.tail _ (.tail _ (.tail _ (h)))))))))))))))) ?_
      refine forall_in_cons (apartL (way q hq) (NA (c6, oc6) (by ktn_open)).2.2 (fun hm => by
        rcases List.mem_append.mp (show q ∈ [(148, tabObj #[])] ++ subX x dx es n yl from hm) with h | h
        · exact absurd rfl (hap q hq q h)
        · exact Nat.ne_of_gt (b6 q (.tail _ (.tail _ (.tail _ (.tail _ (.tail _ (.tail _ (.tail _ (.tail _ (.tail _ (.tail _ (.tail _ (.tail _ (.tail _ (.tail _ (h)))))))))))))))))) ?_
      exact forall_in_nil
    refine hret l _ (tabLed c1 c2 c3 c4 c5 c6 oc1 oc2 oc3 oc4 oc5 oc6) _ _ (.inr ⟨c1, c2, c3, c4, c5, c6, oc1, oc2, oc3, oc4, oc5, oc6, ⟨_, _, da1, db1⟩, ⟨_, _, da2, db2⟩, ⟨_, _, da3, db3⟩, ⟨_, _, da4, db4⟩, ⟨_, _, da5, db5⟩, ⟨_, _, da6, db6⟩, rfl⟩) kF2 (news_cons kN2 (List.forall_mem_append.mpr ⟨forall_in_cons (kN2 _ (by ktn_open)) (forall_in_cons (kN2 _ (by ktn_open)) (forall_in_cons (kN2 _ (by ktn_open)) (forall_in_cons (kN2 _ (by ktn_open)) (forall_in_cons (kN2 _ (by ktn_open)) (forall_in_cons (kN2 _ (by ktn_open)) (forall_in_cons (kN2 _ (by ktn_open)) (forall_in_nil))))))), hO⟩)) apn (List.forall_mem_append.mpr ⟨forall_in_cons (by (try dsimp only); k_ne) (forall_in_cons (by (try dsimp only); k_ne) (forall_in_cons (by (try dsimp only); k_ne) (forall_in_cons (by (try dsimp only); k_ne) (forall_in_cons (by (try dsimp only); k_ne) (forall_in_cons (by (try dsimp only); k_ne) (forall_in_cons (by (try dsimp only); k_ne) (forall_in_nil))))))), fun q hq => ?_⟩)
    exact (apartL (way q hq) (NA _ (.head _)).2.2 (fun hm => by
        rcases List.mem_append.mp (show q ∈ [(148, tabObj #[])] ++ subX x dx es n yl from hm) with h | h
        · exact absurd rfl (hap q hq q h)
        · exact Nat.ne_of_gt (bX q h))).symm
end Mine
end
section
open PySem PySem.W PyProof.Rows
namespace Mine
theorem off_C_f_ret : True := by w_top off; exact True.intro
set_option maxRecDepth 100000
set_option linter.unusedVariables false
set_option linter.unusedSimpArgs false
set_option maxHeartbeats 8000000
local macro_rules | `(tactic| k_room) => `(tactic| ktr_room)
local macro_rules | `(tactic| k_units) => `(tactic| ktr_units)
local macro_rules | `(tactic| units_room) => `(tactic| ktr_units)
local macro_rules | `(tactic| k_updF) => `(tactic| first | exact UpdF.head (by assumption) | (refine' UpdF.tail ?a ?b; (case a => k_ne); (case b => k_updF)))
local macro_rules | `(tactic| walk_at "eval Lambda") => `(tactic| (k_here; refine held_ ?_))
local macro_rules | `(tactic| walk_at "exec For") => `(tactic| (k_here; refine held_ ?_))
local macro_rules | `(tactic| walk_at "exec For Name Tuple cons nil") => `(tactic| (k_here; refine held_ ?_))
local macro_rules | `(tactic| walk_at "pyIter ref") => `(tactic| (k_here; refine held_ ?_))
local macro_rules | `(tactic| ktn_open) => `(tactic| (repeat (first | exact List.Mem.head _ | refine List.Mem.tail _ ?_)))
theorem cmpd_ret_f (hmk : Marks hd.heap_39 PySem.Challenge.rw_vy0039_01) {prog : Program} {w : World} {p : Program} {loose : List Str} {mean : ExcName → Option Value} {mg mb : Str → Option Value} {x dx : Addr} {es : List DictEntry} {n : Nat} {ov tbv : Value} {yl others : Led} {k1 k2 k3 k4 k5 k6 : Addr} {q1 q2 q3 q4 q5 q6 : Obj} (e1 : CodeL q1) (e2 : CodeL q2) (e3 : CodeL q3) (e4 : CodeL q4) (e5 : CodeL q5) (e6 : CodeL q6) (hcm : getL "_cmp" es = some none)
  (hn : notFirst (hd.heap_39 w.params) 109 tbv = true) (hty : ∀ {g L h}, News g L h (subX x dx es n yl) → (hd.heap_39 w.params).In h → Looks (model prog w) h (typeOf ov) tbv) 
  (ho : ∀ q ∈ subX x dx es n yl, q ∈ others) (hap : ∀ q ∈ others, ∀ p ∈ (tabLed k1 k2 k3 k4 k5 k6 q1 q2 q3 q4 q5 q6 : Led), p.1 ≠ q.1)
  (C : ∀ {news' : Led}, (∀ q ∈ subX x dx es n yl, q ∈ news') → VClaim 30 300 prog w (hd.heap_39 w.params) p loose mean mg mb 56 [.ref x, ov] news' (fun v => ∃ t, v = .int 0 t))
  (dp un : Nat) (gd : Option (List Code)) (cn : Str) (cs : Scope) (a : Addr) (ccd : Value) (cl : List (Str × Addr)) (A₀ : Around) (h₀ : Heap) (L : Addr) (m : Str → Option Value) (s : Shared) (Q E : Value → Shared → Prop) :
  Below A₀ h₀ [] h₀ → Fr h₀ L s.heap m → (hd.heap_39 w.params).In h₀ → CodeHd h₀ 152 148 → News h₀ L s.heap (tabLed k1 k2 k3 k4 k5 k6 q1 q2 q3 q4 q5 q6 ++ others) → Top p loose mean mg mb h₀ → cs.kind = .function → dp + 50 < recursionLimit → un + 360 < cLine →
  (∀ l nl TB' h' tk', LamTab TB' → Fr h₀ L h' m → News h₀ L h' ((l, listOf #[.bool true, .bool false, .bool false, .bool false, .bool true, .bool true] nl) :: (TB' ++ others)) → (∀ q ∈ others, ∀ p ∈ TB', p.1 ≠ q.1) → (∀ q ∈ TB' ++ others, q.1 ≠ l) → Q (.ref l) { s with heap := h', toks := tk' }) →
  wpAny (model prog w) (ktrTop dp un gd cn cs L a ccd cl []) (call (.ref 153) [.ref x, ov]) Q E s := by
  revert hmk
  k_fill
  intro hmk' B F X C0 N T hk hd hu hret
  have D0 : KtsDicts (([] : List Env).filterMap (·.frame)) h₀ := ktsDicts_nil
  have N0 : News h₀ L s.heap ((148, tab6 k1 k2 k3 k4 k5 k6) :: (k1, q1) :: (k2, q2) :: (k3, q3) :: (k4, q4) :: (k5, q5) :: (k6, q6) :: (x, instObj 109 dx) :: (dx, dictOf es n) :: yl) := fun q hq => N q (by
    rcases List.mem_append.mp (show q ∈ tabLed k1 k2 k3 k4 k5 k6 q1 q2 q3 q4 q5 q6 ++ subX x dx es n yl from hq) with h | h
    · exact List.mem_append_left _ h
    · exact List.mem_append_right _ (ho q h))
  obtain ⟨vs1, t1, da1, db1⟩ := e1
  obtain ⟨vs2, t2, da2, db2⟩ := e2
  obtain ⟨vs3, t3, da3, db3⟩ := e3
  obtain ⟨vs4, t4, da4, db4⟩ := e4
  obtain ⟨vs5, t5, da5, db5⟩ := e5
  obtain ⟨vs6, t6, da6, db6⟩ := e6
  refine wpAny_call ?_
  k_dflt (refine' code_cellsT ?k1 ?k2 ?k3 N0 ?k5 D0 ?kA ?kF ?kK ?k6 ?k7 ?k8 ?k9 ?kB ?kD ?_ ?c2 ?c3 ?c4; (case kA => exact rfl); (case kF => exact rfl); (case kK => assumption); (case k1 => k_asm); (case k2 => k_asm); (case k3 => k_asm); (case k5 => k_asm); (case k6 => k_is); (case k7 => k_is); (case k8 => ktr_room); (case k9 => exact BindsTo.of_eq rfl); (case kB => exact fun _ => forall_in_cons (.inr ⟨rfl, rfl⟩) (forall_in_cons (.inr ⟨rfl, rfl⟩) forall_in_nil)); (case kD => decide +kernel); (case c2 => exact rfl); (case c3 => exact rfl); (case c4 => exact rfl); k_whole; intro g' L' h' tk' cells' FG' F' N' Y' B' X' T' GS D' l1; (have b0 := l1); (try k_lt l1); (obtain ⟨o1, o2, hE, d1, d2⟩ := CellsAre.two Y'); subst hE; clear Y'; (try simp only [List.cons_append, List.nil_append] at N'); (try dsimp only); (try k_lift B'); (try k_fold))
  have dd1 : o1.data = .cell (some ov) := d1
  have dd2 : o2.data = .cell (some (.ref x)) := d2
  clear d1 d2
  have CH : CodeHd g' 152 148 := C0.keeps B'.stays
  k_steps
  unfold Held
  refine wpAny_For ?_
  k_steps
  rename_i l _ bl _ F1 N1
  unfold Held
  rename Fr g' L' _ _ => FX
  rename News g' L' _ _ => NX
  refine kla_eval rfl ?_
  k_dflt (refine' kla_hit FX NX T' CH rfl (by ktn_open) ?t ?n rfl ?_; (case t => kn_triples); (case n => kn_hit); k_whole)
  intro f1 ct1 h1 tk1 F1 N1 b1
  (try dsimp only at N1)
  have bb1 := b1
  k_lt bb1
  clear FX NX
  k_steps
  unfold Held
  rename Fr g' L' _ _ => FX
  rename News g' L' _ _ => NX
  refine kla_eval rfl ?_
  k_dflt (refine' kla_hit FX NX T' CH rfl (by ktn_open) ?t ?n rfl ?_; (case t => kn_triples); (case n => kn_hit); k_whole)
  intro f2 ct2 h2 tk2 F2 N2 b2
  (try dsimp only at N2)
  have bb2 := b2
  k_lt bb2
  clear FX NX
  k_steps
  unfold Held
  rename Fr g' L' _ _ => FX
  rename News g' L' _ _ => NX
  refine kla_eval rfl ?_
  k_dflt (refine' kla_hit FX NX T' CH rfl (by ktn_open) ?t ?n rfl ?_; (case t => kn_triples); (case n => kn_hit); k_whole)
  intro f3 ct3 h3 tk3 F3 N3 b3
  (try dsimp only at N3)
  have bb3 := b3
  k_lt bb3
  clear FX NX
  k_steps
  unfold Held
  rename Fr g' L' _ _ => FX
  rename News g' L' _ _ => NX
  refine kla_eval rfl ?_
  k_dflt (refine' kla_hit FX NX T' CH rfl (by ktn_open) ?t ?n rfl ?_; (case t => kn_triples); (case n => kn_hit); k_whole)
  intro f4 ct4 h4 tk4 F4 N4 b4
  (try dsimp only at N4)
  have bb4 := b4
  k_lt bb4
  clear FX NX
  k_steps
  unfold Held
  rename Fr g' L' _ _ => FX
  rename News g' L' _ _ => NX
  refine kla_eval rfl ?_
  k_dflt (refine' kla_hit FX NX T' CH rfl (by ktn_open) ?t ?n rfl ?_; (case t => kn_triples); (case n => kn_hit); k_whole)
  intro f5 ct5 h5 tk5 F5 N5 b5
  (try dsimp only at N5)
  have bb5 := b5
  k_lt bb5
  clear FX NX
  k_steps
  unfold Held
  rename Fr g' L' _ _ => FX
  rename News g' L' _ _ => NX
  refine kla_eval rfl ?_
  k_dflt (refine' kla_hit FX NX T' CH rfl (by ktn_open) ?t ?n rfl ?_; (case t => kn_triples); (case n => kn_hit); k_whole)
  intro f6 ct6 h6 tk6 F6 N6 b6
  (try dsimp only at N6)
  have bb6 := b6
  k_lt bb6
  clear FX NX
  k_steps
  unfold Held
  rename Fr g' L' _ _ => FX
  rename News g' L' _ _ => NX
  refine iter_tup_led (items := [.ref f1, .ref f2, .ref f3, .ref f4, .ref f5, .ref f6]) FX NX (.head _) ?_
  intro it io h8 F8 N8 hio bit
  have NL := news_mid (pre := [_, _, _, _, _, _, _]) (fun p hp => N8 p (.tail _ hp))
  simp only [List.cons_append, List.nil_append] at NL
  have NM := news_cons N8 NL
  have NMb := all_mid (pre := [_, _, _, _, _, _, _]) bit
  simp only [List.cons_append, List.nil_append] at NMb
  refine loop_ret (fs := [(f1, true), (f2, false), (f3, false), (f4, false), (f5, true), (f6, true)]) hmk' B' X' T' (by omega) (by omega) F8 NM hio (by ktn_open) (by k_all) (Nat.ne_of_lt (bit (l, listOf #[] 0) (by ktn_open))) (fun p hp => Nat.ne_of_lt (NMb p hp)) (Nat.le_of_ble_eq_true rfl) (forall_in_cons ⟨_, _, _, _, by ktn_open⟩ (forall_in_cons ⟨_, _, _, _, by ktn_open⟩ (forall_in_cons ⟨_, _, _, _, by ktn_open⟩ (forall_in_cons ⟨_, _, _, _, by ktn_open⟩ (forall_in_cons ⟨_, _, _, _, by ktn_open⟩ (forall_in_cons ⟨_, _, _, _, by ktn_open⟩ (forall_in_nil))))))) ?Cs ?fin
  case Cs => 
    exact forall_in_cons (fun hr => lam_ret hmk' (op := .Eq) (fd := 63) (fun _ _ => rfl) (by k_is) (by k_is) hn hty dd1 dd2 da1 db1 (d_ret_eq hmk' hcm C) (forall_in_cons (hr _ (by ktn_open)) (forall_in_cons (hr _ (by ktn_open)) (forall_in_cons (hr _ (by ktn_open)) (forall_in_cons (hr _ (by ktn_open)) (fun q hq => hr q (.tail _ (.tail _ (.tail _ (.tail _ (.tail _ (.tail _ (.tail _ (.tail _ (.tail _ (.tail _ (.tail _ (.tail _ (.tail _ (.tail _ (.tail _ (.tail _ (hq))))))))))))))))))))))) (forall_in_cons (fun hr => lam_ret hmk' (op := .NotEq) (fd := 70) (fun _ _ => rfl) (by k_is) (by k_is) hn hty dd1 dd2 da2 db2 (d_ret_ne hmk' hcm C) (forall_in_cons (hr _ (by ktn_open)) (forall_in_cons (hr _ (by ktn_open)) (forall_in_cons (hr _ (by ktn_open)) (forall_in_cons (hr _ (by ktn_open)) (fun q hq => hr q (.tail _ (.tail _ (.tail _ (.tail _ (.tail _ (.tail _ (.tail _ (.tail _ (.tail _ (.tail _ (.tail _ (.tail _ (.tail _ (.tail _ (.tail _ (.tail _ (hq))))))))))))))))))))))) (forall_in_cons (fun hr => lam_ret hmk' (op := .Lt) (fd := 77) (fun _ _ => rfl) (by k_is) (by k_is) hn hty dd1 dd2 da3 db3 (d_ret_lt hmk' hcm C) (forall_in_cons (hr _ (by ktn_open)) (forall_in_cons (hr _ (by ktn_open)) (forall_in_cons (hr _ (by ktn_open)) (forall_in_cons (hr _ (by ktn_open)) (fun q hq => hr q (.tail _ (.tail _ (.tail _ (.tail _ (.tail _ (.tail _ (.tail _ (.tail _ (.tail _ (.tail _ (.tail _ (.tail _ (.tail _ (.tail _ (.tail _ (.tail _ (hq))))))))))))))))))))))) (forall_in_cons (fun hr => lam_ret hmk' (op := .Gt) (fd := 84) (fun _ _ => rfl) (by k_is) (by k_is) hn hty dd1 dd2 da4 db4 (d_ret_gt hmk' hcm C) (forall_in_cons (hr _ (by ktn_open)) (forall_in_cons (hr _ (by ktn_open)) (forall_in_cons (hr _ (by ktn_open)) (forall_in_cons (hr _ (by ktn_open)) (fun q hq => hr q (.tail _ (.tail _ (.tail _ (.tail _ (.tail _ (.tail _ (.tail _ (.tail _ (.tail _ (.tail _ (.tail _ (.tail _ (.tail _ (.tail _ (.tail _ (.tail _ (hq))))))))))))))))))))))) (forall_in_cons (fun hr => lam_ret hmk' (op := .LtE) (fd := 91) (fun _ _ => rfl) (by k_is) (by k_is) hn hty dd1 dd2 da5 db5 (d_ret_le hmk' hcm C) (forall_in_cons (hr _ (by ktn_open)) (forall_in_cons (hr _ (by ktn_open)) (forall_in_cons (hr _ (by ktn_open)) (forall_in_cons (hr _ (by ktn_open)) (fun q hq => hr q (.tail _ (.tail _ (.tail _ (.tail _ (.tail _ (.tail _ (.tail _ (.tail _ (.tail _ (.tail _ (.tail _ (.tail _ (.tail _ (.tail _ (.tail _ (.tail _ (hq))))))))))))))))))))))) (forall_in_cons (fun hr => lam_ret hmk' (op := .GtE) (fd := 98) (fun _ _ => rfl) (by k_is) (by k_is) hn hty dd1 dd2 da6 db6 (d_ret_ge hmk' hcm C) (forall_in_cons (hr _ (by ktn_open)) (forall_in_cons (hr _ (by ktn_open)) (forall_in_cons (hr _ (by ktn_open)) (forall_in_cons (hr _ (by ktn_open)) (fun q hq => hr q (.tail _ (.tail _ (.tail _ (.tail _ (.tail _ (.tail _ (.tail _ (.tail _ (.tail _ (.tail _ (.tail _ (.tail _ (.tail _ (.tail _ (.tail _ (.tail _ (hq))))))))))))))))))))))) (forall_in_nil))))))
  case fin =>
    intro h9 tk9 dv9 n9 F9 N9
    k_steps
    rename Fr g' L' _ _ => FA
    rename News g' L' _ _ => NA
    refine ⟨g', L', _, _, KtsTurn.refl, FA, NA, fun h₀' T₀ kF kN kB => ?_⟩
    obtain ⟨kF2, kN2⟩ := turn_back T₀ kF kN
    kts_tail
    have bX : ∀ r ∈ subX x dx es n yl, r.1 < l := fun r hr => Nat.lt_trans (b0 r (.tail _ (.tail _ (.tail _ (.tail _ (.tail _ (.tail _ (.tail _ (hr))))))))) (by omega)
    obtain ⟨hO, way⟩ := fin_cmp (env := envX cn cs L a ccd cl) (others := others) rfl N GS KtsTurn.refl FA kN2 (fun q hq => by
      rcases List.mem_append.mp (show q ∈ tabLed k1 k2 k3 k4 k5 k6 q1 q2 q3 q4 q5 q6 ++ subX x dx es n yl from hq) with h | h
      · exact List.mem_append_left _ h
      · exact List.mem_append_right _ (ho q h)) (fun q hq => List.mem_append_right _ hq) (fun q hq hm => by
      rcases List.mem_append.mp (show q ∈ tabLed k1 k2 k3 k4 k5 k6 q1 q2 q3 q4 q5 q6 ++ subX x dx es n yl from hm) with h | h
      · exact absurd rfl (hap q hq q h)
      · exact .tail _ (.tail _ (.tail _ (.tail _ (.tail _ (.tail _ (.tail _ (.tail _ (.tail _ (.tail _ (.tail _ (.tail _ (.tail _ (.tail _ (.tail _ (.tail _ (.tail _ (h))))))))))))))))))
    have apn : ∀ q ∈ others, ∀ p ∈ (tabLed k1 k2 k3 k4 k5 k6 q1 q2 q3 q4 q5 q6 : Led), p.1 ≠ q.1 := hap
    refine hret l _ (tabLed k1 k2 k3 k4 k5 k6 q1 q2 q3 q4 q5 q6) _ _ (.inr ⟨k1, k2, k3, k4, k5, k6, q1, q2, q3, q4, q5, q6, ⟨_, _, da1, db1⟩, ⟨_, _, da2, db2⟩, ⟨_, _, da3, db3⟩, ⟨_, _, da4, db4⟩, ⟨_, _, da5, db5⟩, ⟨_, _, da6, db6⟩, rfl⟩) kF2 (news_cons kN2 (List.forall_mem_append.mpr ⟨forall_in_cons (kN2 _ (by ktn_open)) (forall_in_cons (kN2 _ (by ktn_open)) (forall_in_cons (kN2 _ (by ktn_open)) (forall_in_cons (kN2 _ (by ktn_open)) (forall_in_cons (kN2 _ (by ktn_open)) (forall_in_cons (kN2 _ (by ktn_open)) (forall_in_cons (kN2 _ (by ktn_open)) (forall_in_nil))))))), hO⟩)) apn (List.forall_mem_append.mpr ⟨forall_in_cons (by (try dsimp only); k_ne) (forall_in_cons (by (try dsimp only); k_ne) (forall_in_cons (by (try dsimp only); k_ne) (forall_in_cons (by (try dsimp only); k_ne) (forall_in_cons (by (try dsimp only); k_ne) (forall_in_cons (by (try dsimp only); k_ne) (forall_in_cons (by (try dsimp only); k_ne) (forall_in_nil))))))), fun q hq => ?_⟩)
    exact (apartL (way q hq) (NA _ (.head _)).2.2 (fun hm => by
        rcases List.mem_append.mp (show q ∈ tabLed k1 k2 k3 k4 k5 k6 q1 q2 q3 q4 q5 q6 ++ subX x dx es n yl from hm) with h | h
        · exact absurd rfl (hap q hq q h)
        · exact Nat.ne_of_gt (bX q h))).symm
end Mine
end
section
open PySem PySem.W PyProof.Rows
namespace Mine
theorem off_C_e_raise : True := by w_top off; exact True.intro
local macro_rules | `(tactic| walk_at "no such key 0") => `(tactic| fail)
set_option maxRecDepth 100000
set_option linter.unusedVariables false
set_option linter.unusedSimpArgs false
set_option maxHeartbeats 8000000
local macro_rules | `(tactic| k_room) => `(tactic| ktr_room)
local macro_rules | `(tactic| k_units) => `(tactic| ktr_units)
local macro_rules | `(tactic| units_room) => `(tactic| ktr_units)
local macro_rules | `(tactic| k_updF) => `(tactic| first | exact UpdF.head (by assumption) | (refine' UpdF.tail ?a ?b; (case a => k_ne); (case b => k_updF)))
local macro_rules | `(tactic| walk_at "eval Lambda") => `(tactic| (k_here; refine held_ ?_))
local macro_rules | `(tactic| walk_at "exec For") => `(tactic| (k_here; refine held_ ?_))
local macro_rules | `(tactic| walk_at "exec For Name Tuple cons nil") => `(tactic| (k_here; refine held_ ?_))
local macro_rules | `(tactic| walk_at "pyIter ref") => `(tactic| (k_here; refine held_ ?_))
local macro_rules | `(tactic| ktn_open) => `(tactic| (repeat (first | exact List.Mem.head _ | refine List.Mem.tail _ ?_)))
theorem cmpd_raise_e (hmk : Marks hd.heap_39 PySem.Challenge.rw_vy0039_01) {prog : Program} {w : World} {p : Program} {loose : List Str} {mean : ExcName → Option Value} {mg mb : Str → Option Value} {x dx : Addr} {es : List DictEntry} {n : Nat} {ov tbv : Value} {yl others : Led} (hcm : getL "_cmp" es = some none)
  (hn : notFirst (hd.heap_39 w.params) 109 tbv = true) (hty : ∀ {g L h}, News g L h (subX x dx es n yl) → (hd.heap_39 w.params).In h → Looks (model prog w) h (typeOf ov) tbv) (h148 : ∀ p ∈ (subX x dx es n yl), p.1 ≠ 148)
  (ho : ∀ q ∈ subX x dx es n yl, q ∈ others) (hap : ∀ q ∈ others, ∀ p ∈ ([(148, tabObj #[])] : Led), p.1 ≠ q.1)
  (C : RClaim 30 300 prog w (hd.heap_39 w.params) p loose mean mg mb 56 [.ref x, ov] (subX x dx es n yl))
  (dp un : Nat) (gd : Option (List Code)) (cn : Str) (cs : Scope) (a : Addr) (ccd : Value) (cl : List (Str × Addr)) (A₀ : Around) (h₀ : Heap) (L : Addr) (m : Str → Option Value) (s : Shared) (Q E : Value → Shared → Prop) :
  Below A₀ h₀ [] h₀ → Fr h₀ L s.heap m → (hd.heap_39 w.params).In h₀ → CodeHd h₀ 152 148 → News h₀ L s.heap ([(148, tabObj #[])] ++ others) → Top p loose mean mg mb h₀ → cs.kind = .function → dp + 50 < recursionLimit → un + 360 < cLine →
  (∀ l nl TB' h' tk' vs, LamTab TB' → Fr h₀ L h' m → News h₀ L h' ((l, listOf vs.toArray nl) :: (TB' ++ others)) → (∀ q ∈ others, ∀ p ∈ TB', p.1 ≠ q.1) → (∀ q ∈ TB' ++ others, q.1 ≠ l) → vs.length = 6 → Refd vs → Q (.ref l) { s with heap := h', toks := tk' }) →
  wpAny (model prog w) (ktrTop dp un gd cn cs L a ccd cl []) (call (.ref 153) [.ref x, ov]) Q E s := by
  revert hmk
  k_fill
  intro hmk' B F X C0 N T hk hd hu hret
  have D0 : KtsDicts (([] : List Env).filterMap (·.frame)) h₀ := ktsDicts_nil
  have N0 : News h₀ L s.heap ((148, tabObj #[]) :: (x, instObj 109 dx) :: (dx, dictOf es n) :: yl) := fun q hq => N q (by
    rcases List.mem_append.mp (show q ∈ [(148, tabObj #[])] ++ subX x dx es n yl from hq) with h | h
    · exact List.mem_append_left _ h
    · exact List.mem_append_right _ (ho q h))
  refine wpAny_call ?_
  k_dflt (refine' code_cellsT ?k1 ?k2 ?k3 N0 ?k5 D0 ?kA ?kF ?kK ?k6 ?k7 ?k8 ?k9 ?kB ?kD ?_ ?c2 ?c3 ?c4; (case kA => exact rfl); (case kF => exact rfl); (case kK => assumption); (case k1 => k_asm); (case k2 => k_asm); (case k3 => k_asm); (case k5 => k_asm); (case k6 => k_is); (case k7 => k_is); (case k8 => ktr_room); (case k9 => exact BindsTo.of_eq rfl); (case kB => exact fun _ => forall_in_cons (.inr ⟨rfl, rfl⟩) (forall_in_cons (.inr ⟨rfl, rfl⟩) forall_in_nil)); (case kD => decide +kernel); (case c2 => exact rfl); (case c3 => exact rfl); (case c4 => exact rfl); k_whole; intro g' L' h' tk' cells' FG' F' N' Y' B' X' T' GS D' l1; (have b0 := l1); (try k_lt l1); (obtain ⟨o1, o2, hE, d1, d2⟩ := CellsAre.two Y'); subst hE; clear Y'; (try simp only [List.cons_append, List.nil_append] at N'); (try dsimp only); (try k_lift B'); (try k_fold))
  have dd1 : o1.data = .cell (some ov) := d1
  have dd2 : o2.data = .cell (some (.ref x)) := d2
  clear d1 d2
  have CH : CodeHd g' 152 148 := C0.keeps B'.stays
  k_steps
  unfold Held
  refine wpAny_For ?_
  k_steps
  rename_i l _ bl _ F1 N1
  unfold Held
  rename Fr g' L' _ _ => FX
  rename News g' L' _ _ => NX
  refine kla_eval rfl ?_
  k_dflt (refine' kla_nest FX NX T' CH rfl ?U ?t ?n rfl ?_; (case U => k_updF); (case t => kn_triples); (case n => kn_among); k_whole)
  intro f1 c1 oc1 vs1 t1 ct1 h1 tk1 F1 N1 da1 db1 b1 u1
  (try dsimp only at N1); (try simp only [List.append_toArray, List.cons_append, List.nil_append] at N1)
  have bb1 := b1
  have uu1 := u1
  k_lt bb1
  k_lt2 uu1
  clear FX NX
  k_steps
  unfold Held
  rename Fr g' L' _ _ => FX
  rename News g' L' _ _ => NX
  refine kla_eval rfl ?_
  k_dflt (refine' kla_nest FX NX T' CH rfl ?U ?t ?n rfl ?_; (case U => k_updF); (case t => kn_triples); (case n => kn_among); k_whole)
  intro f2 c2 oc2 vs2 t2 ct2 h2 tk2 F2 N2 da2 db2 b2 u2
  (try dsimp only at N2); (try simp only [List.append_toArray, List.cons_append, List.nil_append] at N2)
  have bb2 := b2
  have uu2 := u2
  k_lt bb2
  k_lt2 uu2
  clear FX NX
  k_steps
  unfold Held
  rename Fr g' L' _ _ => FX
  rename News g' L' _ _ => NX
  refine kla_eval rfl ?_
  k_dflt (refine' kla_nest FX NX T' CH rfl ?U ?t ?n rfl ?_; (case U => k_updF); (case t => kn_triples); (case n => kn_among); k_whole)
  intro f3 c3 oc3 vs3 t3 ct3 h3 tk3 F3 N3 da3 db3 b3 u3
  (try dsimp only at N3); (try simp only [List.append_toArray, List.cons_append, List.nil_append] at N3)
  have bb3 := b3
  have uu3 := u3
  k_lt bb3
  k_lt2 uu3
  clear FX NX
  k_steps
  unfold Held
  rename Fr g' L' _ _ => FX
  rename News g' L' _ _ => NX
  refine kla_eval rfl ?_
  k_dflt (refine' kla_nest FX NX T' CH rfl ?U ?t ?n rfl ?_; (case U => k_updF); (case t => kn_triples); (case n => kn_among); k_whole)
  intro f4 c4 oc4 vs4 t4 ct4 h4 tk4 F4 N4 da4 db4 b4 u4
  (try dsimp only at N4); (try simp only [List.append_toArray, List.cons_append, List.nil_append] at N4)
  have bb4 := b4
  have uu4 := u4
  k_lt bb4
  k_lt2 uu4
  clear FX NX
  k_steps
  unfold Held
  rename Fr g' L' _ _ => FX
  rename News g' L' _ _ => NX
  refine kla_eval rfl ?_
  k_dflt (refine' kla_nest FX NX T' CH rfl ?U ?t ?n rfl ?_; (case U => k_updF); (case t => kn_triples); (case n => kn_among); k_whole)
  intro f5 c5 oc5 vs5 t5 ct5 h5 tk5 F5 N5 da5 db5 b5 u5
  (try dsimp only at N5); (try simp only [List.append_toArray, List.cons_append, List.nil_append] at N5)
  have bb5 := b5
  have uu5 := u5
  k_lt bb5
  k_lt2 uu5
  clear FX NX
  k_steps
  unfold Held
  rename Fr g' L' _ _ => FX
  rename News g' L' _ _ => NX
  refine kla_eval rfl ?_
  k_dflt (refine' kla_nest FX NX T' CH rfl ?U ?t ?n rfl ?_; (case U => k_updF); (case t => kn_triples); (case n => kn_among); k_whole)
  intro f6 c6 oc6 vs6 t6 ct6 h6 tk6 F6 N6 da6 db6 b6 u6
  (try dsimp only at N6); (try simp only [List.append_toArray, List.cons_append, List.nil_append] at N6)
  have bb6 := b6
  have uu6 := u6
  k_lt bb6
  k_lt2 uu6
  clear FX NX
  k_steps
  unfold Held
  rename Fr g' L' _ _ => FX
  rename News g' L' _ _ => NX
  refine iter_tup_led (items := [.ref f1, .ref f2, .ref f3, .ref f4, .ref f5, .ref f6]) FX NX (.head _) ?_
  intro it io h8 F8 N8 hio bit
  have NL := news_mid (pre := [_, _, _, _, _, _, _, _, _, _, _, _, _]) (fun p hp => N8 p (.tail _ hp))
  simp only [List.cons_append, List.nil_append] at NL
  have NM := news_cons N8 NL
  have NMb := all_mid (pre := [_, _, _, _, _, _, _, _, _, _, _, _, _]) bit
  simp only [List.cons_append, List.nil_append] at NMb
  refine loop_raise (fs := [f1, f2, f3, f4, f5, f6]) hmk' B' X' T' D' X T (by omega) (by omega) F8 NM hio (by ktn_open) (by k_all) (Nat.ne_of_lt (bit (l, listOf #[] 0) (by ktn_open))) (fun p hp => Nat.ne_of_lt (NMb p hp)) (Nat.le_of_ble_eq_true rfl) (forall_in_cons ⟨_, _, _, _, by ktn_open⟩ (forall_in_cons ⟨_, _, _, _, by ktn_open⟩ (forall_in_cons ⟨_, _, _, _, by ktn_open⟩ (forall_in_cons ⟨_, _, _, _, by ktn_open⟩ (forall_in_cons ⟨_, _, _, _, by ktn_open⟩ (forall_in_cons ⟨_, _, _, _, by ktn_open⟩ (forall_in_nil))))))) ?Cs ?fin
  case Cs => 
    exact forall_in_cons (⟨_, (List.forall_mem_append.mpr ⟨forall_in_cons (by ktn_open) (forall_in_cons (by ktn_open) (forall_in_cons (by ktn_open) (forall_in_cons (by ktn_open) forall_in_nil))), fun q hq => .tail _ (.tail _ (.tail _ (.tail _ (.tail _ (.tail _ (.tail _ (.tail _ (.tail _ (.tail _ (.tail _ (.tail _ (.tail _ (.tail _ (.tail _ (.tail _ (hq))))))))))))))))⟩), lam_raise hmk' (op := .Eq) (fd := 63) (fun _ _ => rfl) (by k_is) (by k_is) hn hty dd1 dd2 da1 db1 (d_raise_eq hmk' hcm C) (forall_in_cons (fun r hr => Nat.ne_of_gt (Nat.lt_trans (b1 r (.tail _ (.tail _ (.tail _ (.tail _ (hr)))))) u1)) (forall_in_cons (fun r hr => Nat.ne_of_gt (b1 r (.tail _ (.tail _ (.tail _ (.tail _ (hr))))))) (forall_in_cons (fun r hr => Nat.ne_of_gt (Nat.lt_trans (b0 r (.tail _ (hr))) (Nat.lt_succ_of_lt (Nat.lt_succ_self L')))) (forall_in_cons (fun r hr => Nat.ne_of_gt (Nat.lt_trans (b0 r (.tail _ (hr))) (Nat.lt_succ_self L'))) forall_in_nil))))⟩) (forall_in_cons (⟨_, (List.forall_mem_append.mpr ⟨forall_in_cons (by ktn_open) (forall_in_cons (by ktn_open) (forall_in_cons (by ktn_open) (forall_in_cons (by ktn_open) forall_in_nil))), fun q hq => .tail _ (.tail _ (.tail _ (.tail _ (.tail _ (.tail _ (.tail _ (.tail _ (.tail _ (.tail _ (.tail _ (.tail _ (.tail _ (.tail _ (.tail _ (.tail _ (hq))))))))))))))))⟩), lam_raise hmk' (op := .NotEq) (fd := 70) (fun _ _ => rfl) (by k_is) (by k_is) hn hty dd1 dd2 da2 db2 (d_raise_ne hmk' hcm C) (forall_in_cons (fun r hr => Nat.ne_of_gt (Nat.lt_trans (b2 r (.tail _ (.tail _ (.tail _ (.tail _ (.tail _ (.tail _ (hr)))))))) u2)) (forall_in_cons (fun r hr => Nat.ne_of_gt (b2 r (.tail _ (.tail _ (.tail _ (.tail _ (.tail _ (.tail _ (hr))))))))) (forall_in_cons (fun r hr => Nat.ne_of_gt (Nat.lt_trans (b0 r (.tail _ (hr))) (Nat.lt_succ_of_lt (Nat.lt_succ_self L')))) (forall_in_cons (fun r hr => Nat.ne_of_gt (Nat.lt_trans (b0 r (.tail _ (hr))) (Nat.lt_succ_self L'))) forall_in_nil))))⟩) (forall_in_cons (⟨_, (List.forall_mem_append.mpr ⟨forall_in_cons (by ktn_open) (forall_in_cons (by ktn_open) (forall_in_cons (by ktn_open) (forall_in_cons (by ktn_open) forall_in_nil))), fun q hq => .tail _ (.tail _ (.tail _ (.tail _ (.tail _ (.tail _ (.tail _ (.tail _ (.tail _ (.tail _ (.tail _ (.tail _ (.tail _ (.tail _ (.tail _ (.tail _ (hq))))))))))))))))⟩), lam_raise hmk' (op := .Lt) (fd := 77) (fun _ _ => rfl) (by k_is) (by k_is) hn hty dd1 dd2 da3 db3 (d_raise_lt hmk' hcm C) (forall_in_cons (fun r hr => Nat.ne_of_gt (Nat.lt_trans (b3 r (.tail _ (.tail _ (.tail _ (.tail _ (.tail _ (.tail _ (.tail _ (.tail _ (hr)))))))))) u3)) (forall_in_cons (fun r hr => Nat.ne_of_gt (b3 r (.tail _ (.tail _ (.tail _ (.tail _ (.tail _ (.tail _ (.tail _ (.tail _ (hr))))))))))) (forall_in_cons (fun r hr => Nat.ne_of_gt (Nat.lt_trans (b0 r (.tail _ (hr))) (Nat.lt_succ_of_lt (Nat.lt_succ_self L')))) (forall_in_cons (fun r hr => Nat.ne_of_gt (Nat.lt_trans (b0 r (.tail _ (hr))) (Nat.lt_succ_self L'))) forall_in_nil))))⟩) (forall_in_cons (⟨_, (List.forall_mem_append.mpr ⟨forall_in_cons (by ktn_open) (forall_in_cons (by ktn_open) (forall_in_cons (by ktn_open) (forall_in_cons (by ktn_open) forall_in_nil))), fun q hq => .tail _ (.tail _ (.tail _ (.tail _ (.tail _ (.tail _ (.tail _ (.tail _ (.tail _ (.tail _ (.tail _ (.tail _ (.tail _ (.tail _ (.tail _ (.tail _ (hq))))))))))))))))⟩), lam_raise hmk' (op := .Gt) (fd := 84) (fun _ _ => rfl) (by k_is) (by k_is) hn hty dd1 dd2 da4 db4 (d_raise_gt hmk' hcm C) (forall_in_cons (fun r hr => Nat.ne_of_gt (Nat.lt_trans (b4 r (.tail _ (.tail _ (.tail _ (.tail _ (.tail _ (.tail _ (.tail _ (.tail _ (.tail _ (.tail _ (hr)))))))))))) u4)) (forall_in_cons (fun r hr => Nat.ne_of_gt (b4 r (.tail _ (.tail _ (.tail _ (.tail _ (.tail _ (.tail _ (.tail _ (.tail _ (.tail _ (.tail _ (hr))))))))))))) (forall_in_cons (fun r hr => Nat.ne_of_gt (Nat.lt_trans (b0 r (.tail _ (hr))) (Nat.lt_succ_of_lt (Nat.lt_succ_self L')))) (forall_in_cons (fun r hr => Nat.ne_of_gt (Nat.lt_trans (b0 r (.tail _ (hr))) (Nat.lt_succ_self L'))) forall_in_nil))))⟩) (forall_in_cons (⟨_, (List.forall_mem_append.mpr ⟨forall_in_cons (by ktn_open) (forall_in_cons (by ktn_open) (forall_in_cons (by ktn_open) (forall_in_cons (by ktn_open) forall_in_nil))), fun q hq => .tail _ (.tail _ (.tail _ (.tail _ (.tail _ (.tail _ (.tail _ (.tail _ (.tail _ (.tail _ (.tail _ (.tail _ (.tail _ (.tail _ (.tail _ (.tail _ (hq))))))))))))))))⟩), lam_raise hmk' (op := .LtE) (fd := 91) (fun _ _ => rfl) (by k_is) (by k_is) hn hty dd1 dd2 da5 db5 (d_raise_le hmk' hcm C) (forall_in_cons (fun r hr => Nat.ne_of_gt (Nat.lt_trans (b5 r (.tail _ (.tail _ (.tail _ (.tail _ (.tail _ (.tail _ (.tail _ (.tail _ (.tail _ (.tail _ (.tail _ (.tail _ (hr)))))))))))))) u5)) (forall_in_cons (fun r hr => Nat.ne_of_gt (b5 r (.tail _ (.tail _ (.tail _ (.tail _ (.tail _ (.tail _ (.tail _ (.tail _ (.tail _ (.tail _ (.tail _ (.tail _ (hr))))))))))))))) (forall_in_cons (fun r hr => Nat.ne_of_gt (Nat.lt_trans (b0 r (.tail _ (hr))) (Nat.lt_succ_of_lt (Nat.lt_succ_self L')))) (forall_in_cons (fun r hr => Nat.ne_of_gt (Nat.lt_trans (b0 r (.tail _ (hr))) (Nat.lt_succ_self L'))) forall_in_nil))))⟩) (forall_in_cons (⟨_, (List.forall_mem_append.mpr ⟨forall_in_cons (by ktn_open) (forall_in_cons (by ktn_open) (forall_in_cons (by ktn_open) (forall_in_cons (by ktn_open) forall_in_nil))), fun q hq => .tail _ (.tail _ (.tail _ (.tail _ (.tail _ (.tail _ (.tail _ (.tail _ (.tail _ (.tail _ (.tail _ (.tail _ (.tail _ (.tail _ (.tail _ (.tail _ (hq))))))))))))))))⟩), lam_raise hmk' (op := .GtE) (fd := 98) (fun _ _ => rfl) (by k_is) (by k_is) hn hty dd1 dd2 da6 db6 (d_raise_ge hmk' hcm C) (forall_in_cons (fun r hr => Nat.ne_of_gt (Nat.lt_trans (b6 r (.tail _ (.tail _ (.tail _ (.tail _ (.tail _ (.tail _ (.tail _ (.tail _ (.tail _ (.tail _ (.tail _ (.tail _ (.tail _ (.tail _ (hr)))))))))))))))) u6)) (forall_in_cons (fun r hr => Nat.ne_of_gt (b6 r (.tail _ (.tail _ (.tail _ (.tail _ (.tail _ (.tail _ (.tail _ (.tail _ (.tail _ (.tail _ (.tail _ (.tail _ (.tail _ (.tail _ (hr))))))))))))))))) (forall_in_cons (fun r hr => Nat.ne_of_gt (Nat.lt_trans (b0 r (.tail _ (hr))) (Nat.lt_succ_of_lt (Nat.lt_succ_self L')))) (forall_in_cons (fun r hr => Nat.ne_of_gt (Nat.lt_trans (b0 r (.tail _ (hr))) (Nat.lt_succ_self L'))) forall_in_nil))))⟩) (forall_in_nil))))))
  case fin =>
    intro g9 h9 tk9 dv9 n9 vs9 TT9 F9 N9 hl9 hr9
    k_steps
    rename Fr g9 L' _ _ => FA
    rename News g9 L' _ _ => NA
    refine ⟨g9, L', _, _, TT9, FA, NA, fun h₀' T₀ kF kN kB => ?_⟩
    obtain ⟨kF2, kN2⟩ := turn_back T₀ kF kN
    kts_tail
    have bX : ∀ r ∈ subX x dx es n yl, r.1 < l := fun r hr => Nat.lt_trans (b0 r (.tail _ (hr))) (by omega)
    obtain ⟨hO, way⟩ := fin_cmp (env := envX cn cs L a ccd cl) (others := others) rfl N GS TT9 FA kN2 (fun q hq => by
      rcases List.mem_append.mp (show q ∈ [(148, tabObj #[])] ++ subX x dx es n yl from hq) with h | h
      · exact List.mem_append_left _ h
      · exact List.mem_append_right _ (ho q h)) (fun q hq => List.mem_append_right _ hq) (fun q hq hm => by
      rcases List.mem_append.mp (show q ∈ [(148, tabObj #[])] ++ subX x dx es n yl from hm) with h | h
      · exact absurd rfl (hap q hq q h)
      · exact .tail _ (.tail _ (.tail _ (.tail _ (.tail _ (.tail _ (.tail _ (.tail _ (.tail _ (.tail _ (.tail _ (.tail _ (.tail _ (.tail _ (.tail _ (.tail _ (.tail _ (h))))))))))))))))))
    have apn : ∀ q ∈ others, ∀ p ∈ (tabLed c1 c2 c3 c4 c5 c6 oc1 oc2 oc3 oc4 oc5 oc6 : Led), p.1 ≠ q.1 := fun q hq => by
      refine forall_in_cons (hap q hq (148, tabObj #[]) (.head _)) ?_
      refine forall_in_cons (apartL (way q hq) (NA (c1, oc1) (by ktn_open)).2.2 (fun hm => by
        rcases List.mem_append.mp (show q ∈ [(148, tabObj #[])] ++ subX x dx es n yl from hm) with h | h
        · exact absurd rfl (hap q hq q h)
        · exact Nat.ne_of_gt (b1 q (.tail _ (.tail _ (.tail _ (.tail _ (h)))))))) ?_
      refine forall_in_cons (apartL (way q hq) (NA (c2, oc2) (by ktn_open)).2.2 (fun hm => by
        rcases List.mem_append.mp (show q ∈ [(148, tabObj #[])] ++ subX x dx es n yl from hm) with h | h
        · exact absurd rfl (hap q hq q h)
        · exact Nat.ne_of_gt (b2 q (.tail _ (.tail _ (.tail _ (.tail _ (.tail _ (.tail _ (h)))))))))) ?_
      refine forall_in_cons (apartL (way q hq) (NA (c3, oc3) (by ktn_open)).2.2 (fun hm => by
        rcases List.mem_append.mp (show q ∈ [(148, tabObj #[])] ++ subX x dx es n yl from hm) with h | h
        · exact absurd rfl (hap q hq q h)
        · exact Nat.ne_of_gt (b3 q (.tail _ (.tail _ (.tail _ (.tail _ (.tail _ (.tail _ (.tail _ (.tail _ (h)))))))))))) ?_
      refine forall_in_cons (apartL (way q hq) (NA (c4, oc4) (by ktn_open)).2.2 (fun hm => by
        rcases List.mem_append.mp (show q ∈ [(148, tabObj #[])] ++ subX x dx es n yl from hm) with h | h
        · exact absurd rfl (hap q hq q h)
        · exact Nat.ne_of_gt (b4 q (.tail _ (.tail _ (.tail _ (.tail _ (.tail _ (.tail _ (.tail _ (.tail _ (.tail _ (.tail _ (h)))))))))))))) ?_
      refine forall_in_cons (apartL (way q hq) (NA (c5, oc5) (by ktn_open)).2.2 (fun hm => by
        rcases List.mem_append.mp (show q ∈ [(148, tabObj #[])] ++ subX x dx es n yl from hm) with h | h
        · exact absurd rfl (hap q hq q h)
        · exact Nat.ne_of_gt (b5 q (.tail _ (.tail _ (.tail _ (.tail _ (.tail _ (.tail _ (.tail _ (.tail _ (.tail _ (.tail _ (.tail _ (.tail _ (h)))))))))))))))) ?_
      refine forall_in_cons (apartL (way q hq) (NA (c6, oc6) (by ktn_open)).2.2 (fun hm => by
        rcases List.mem_append.mp (show q ∈ [(148, tabObj #[])] ++ subX x dx es n yl from hm) with h | h
        · exact absurd rfl (hap q hq q h)
        · exact Nat.ne_of_gt (b6 q (.tail _ (.tail _ (.tail _ (.tail _ (.tail _ (.tail _ (.tail _ (.tail _ (.tail _ (.tail _ (.tail _ (.tail _ (.tail _ (.tail _ (h)))))))))))))))))) ?_
      exact forall_in_nil
    refine hret l _ (tabLed c1 c2 c3 c4 c5 c6 oc1 oc2 oc3 oc4 oc5 oc6) _ _ vs9 (.inr ⟨c1, c2, c3, c4, c5, c6, oc1, oc2, oc3, oc4, oc5, oc6, ⟨_, _, da1, db1⟩, ⟨_, _, da2, db2⟩, ⟨_, _, da3, db3⟩, ⟨_, _, da4, db4⟩, ⟨_, _, da5, db5⟩, ⟨_, _, da6, db6⟩, rfl⟩) kF2 (news_cons kN2 (List.forall_mem_append.mpr ⟨forall_in_cons (kN2 _ (by ktn_open)) (forall_in_cons (kN2 _ (by ktn_open)) (forall_in_cons (kN2 _ (by ktn_open)) (forall_in_cons (kN2 _ (by ktn_open)) (forall_in_cons (kN2 _ (by ktn_open)) (forall_in_cons (kN2 _ (by ktn_open)) (forall_in_cons (kN2 _ (by ktn_open)) (forall_in_nil))))))), hO⟩)) apn (List.forall_mem_append.mpr ⟨forall_in_cons (by (try dsimp only); k_ne) (forall_in_cons (by (try dsimp only); k_ne) (forall_in_cons (by (try dsimp only); k_ne) (forall_in_cons (by (try dsimp only); k_ne) (forall_in_cons (by (try dsimp only); k_ne) (forall_in_cons (by (try dsimp only); k_ne) (forall_in_cons (by (try dsimp only); k_ne) (forall_in_nil))))))), fun q hq => ?_⟩) hl9 hr9
    exact (apartL (way q hq) (NA _ (.head _)).2.2 (fun hm => by
        rcases List.mem_append.mp (show q ∈ [(148, tabObj #[])] ++ subX x dx es n yl from hm) with h | h
        · exact absurd rfl (hap q hq q h)
        · exact Nat.ne_of_gt (bX q h))).symm
end Mine
end
section
open PySem PySem.W PyProof.Rows
namespace Mine
theorem off_C_f_raise : True := by w_top off; exact True.intro
set_option maxRecDepth 100000
set_option linter.unusedVariables false
set_option linter.unusedSimpArgs false
set_option maxHeartbeats 8000000
local macro_rules | `(tactic| k_room) => `(tactic| ktr_room)
local macro_rules | `(tactic| k_units) => `(tactic| ktr_units)
local macro_rules | `(tactic| units_room) => `(tactic| ktr_units)
local macro_rules | `(tactic| k_updF) => `(tactic| first | exact UpdF.head (by assumption) | (refine' UpdF.tail ?a ?b; (case a => k_ne); (case b => k_updF)))
local macro_rules | `(tactic| walk_at "eval Lambda") => `(tactic| (k_here; refine held_ ?_))
local macro_rules | `(tactic| walk_at "exec For") => `(tactic| (k_here; refine held_ ?_))
local macro_rules | `(tactic| walk_at "exec For Name Tuple cons nil") => `(tactic| (k_here; refine held_ ?_))
local macro_rules | `(tactic| walk_at "pyIter ref") => `(tactic| (k_here; refine held_ ?_))
local macro_rules | `(tactic| ktn_open) => `(tactic| (repeat (first | exact List.Mem.head _ | refine List.Mem.tail _ ?_)))
theorem cmpd_raise_f (hmk : Marks hd.heap_39 PySem.Challenge.rw_vy0039_01) {prog : Program} {w : World} {p : Program} {loose : List Str} {mean : ExcName → Option Value} {mg mb : Str → Option Value} {x dx : Addr} {es : List DictEntry} {n : Nat} {ov tbv : Value} {yl others : Led} {k1 k2 k3 k4 k5 k6 : Addr} {q1 q2 q3 q4 q5 q6 : Obj} (e1 : CodeL q1) (e2 : CodeL q2) (e3 : CodeL q3) (e4 : CodeL q4) (e5 : CodeL q5) (e6 : CodeL q6) (hcm : getL "_cmp" es = some none)
  (hn : notFirst (hd.heap_39 w.params) 109 tbv = true) (hty : ∀ {g L h}, News g L h (subX x dx es n yl) → (hd.heap_39 w.params).In h → Looks (model prog w) h (typeOf ov) tbv) 
  (ho : ∀ q ∈ subX x dx es n yl, q ∈ others) (hap : ∀ q ∈ others, ∀ p ∈ (tabLed k1 k2 k3 k4 k5 k6 q1 q2 q3 q4 q5 q6 : Led), p.1 ≠ q.1)
  (C : RClaim 30 300 prog w (hd.heap_39 w.params) p loose mean mg mb 56 [.ref x, ov] (subX x dx es n yl))
  (dp un : Nat) (gd : Option (List Code)) (cn : Str) (cs : Scope) (a : Addr) (ccd : Value) (cl : List (Str × Addr)) (A₀ : Around) (h₀ : Heap) (L : Addr) (m : Str → Option Value) (s : Shared) (Q E : Value → Shared → Prop) :
  Below A₀ h₀ [] h₀ → Fr h₀ L s.heap m → (hd.heap_39 w.params).In h₀ → CodeHd h₀ 152 148 → News h₀ L s.heap (tabLed k1 k2 k3 k4 k5 k6 q1 q2 q3 q4 q5 q6 ++ others) → Top p loose mean mg mb h₀ → cs.kind = .function → dp + 50 < recursionLimit → un + 360 < cLine →
  (∀ l nl TB' h' tk' vs, LamTab TB' → Fr h₀ L h' m → News h₀ L h' ((l, listOf vs.toArray nl) :: (TB' ++ others)) → (∀ q ∈ others, ∀ p ∈ TB', p.1 ≠ q.1) → (∀ q ∈ TB' ++ others, q.1 ≠ l) → vs.length = 6 → Refd vs → Q (.ref l) { s with heap := h', toks := tk' }) →
  wpAny (model prog w) (ktrTop dp un gd cn cs L a ccd cl []) (call (.ref 153) [.ref x, ov]) Q E s := by
  revert hmk
  k_fill
  intro hmk' B F X C0 N T hk hd hu hret
  have D0 : KtsDicts (([] : List Env).filterMap (·.frame)) h₀ := ktsDicts_nil
  have N0 : News h₀ L s.heap ((148, tab6 k1 k2 k3 k4 k5 k6) :: (k1, q1) :: (k2, q2) :: (k3, q3) :: (k4, q4) :: (k5, q5) :: (k6, q6) :: (x, instObj 109 dx) :: (dx, dictOf es n) :: yl) := fun q hq => N q (by
    rcases List.mem_append.mp (show q ∈ tabLed k1 k2 k3 k4 k5 k6 q1 q2 q3 q4 q5 q6 ++ subX x dx es n yl from hq) with h | h
    · exact List.mem_append_left _ h
    · exact List.mem_append_right _ (ho q h))
  obtain ⟨vs1, t1, da1, db1⟩ := e1
  obtain ⟨vs2, t2, da2, db2⟩ := e2
  obtain ⟨vs3, t3, da3, db3⟩ := e3
  obtain ⟨vs4, t4, da4, db4⟩ := e4
  obtain ⟨vs5, t5, da5, db5⟩ := e5
  obtain ⟨vs6, t6, da6, db6⟩ := e6
  refine wpAny_call ?_
  k_dflt (refine' code_cellsT ?k1 ?k2 ?k3 N0 ?k5 D0 ?kA ?kF ?kK ?k6 ?k7 ?k8 ?k9 ?kB ?kD ?_ ?c2 ?c3 ?c4; (case kA => exact rfl); (case kF => exact rfl); (case kK => assumption); (case k1 => k_asm); (case k2 => k_asm); (case k3 => k_asm); (case k5 => k_asm); (case k6 => k_is); (case k7 => k_is); (case k8 => ktr_room); (case k9 => exact BindsTo.of_eq rfl); (case kB => exact fun _ => forall_in_cons (.inr ⟨rfl, rfl⟩) (forall_in_cons (.inr ⟨rfl, rfl⟩) forall_in_nil)); (case kD => decide +kernel); (case c2 => exact rfl); (case c3 => exact rfl); (case c4 => exact rfl); k_whole; intro g' L' h' tk' cells' FG' F' N' Y' B' X' T' GS D' l1; (have b0 := l1); (try k_lt l1); (obtain ⟨o1, o2, hE, d1, d2⟩ := CellsAre.two Y'); subst hE; clear Y'; (try simp only [List.cons_append, List.nil_append] at N'); (try dsimp only); (try k_lift B'); (try k_fold))
  have dd1 : o1.data = .cell (some ov) := d1
  have dd2 : o2.data = .cell (some (.ref x)) := d2
  clear d1 d2
  have CH : CodeHd g' 152 148 := C0.keeps B'.stays
  k_steps
  unfold Held
  refine wpAny_For ?_
  k_steps
  rename_i l _ bl _ F1 N1
  unfold Held
  rename Fr g' L' _ _ => FX
  rename News g' L' _ _ => NX
  refine kla_eval rfl ?_
  k_dflt (refine' kla_hit FX NX T' CH rfl (by ktn_open) ?t ?n rfl ?_; (case t => kn_triples); (case n => kn_hit); k_whole)
  intro f1 ct1 h1 tk1 F1 N1 b1
  (try dsimp only at N1)
  have bb1 := b1
  k_lt bb1
  clear FX NX
  k_steps
  unfold Held
  rename Fr g' L' _ _ => FX
  rename News g' L' _ _ => NX
  refine kla_eval rfl ?_
  k_dflt (refine' kla_hit FX NX T' CH rfl (by ktn_open) ?t ?n rfl ?_; (case t => kn_triples); (case n => kn_hit); k_whole)
  intro f2 ct2 h2 tk2 F2 N2 b2
  (try dsimp only at N2)
  have bb2 := b2
  k_lt bb2
  clear FX NX
  k_steps
  unfold Held
  rename Fr g' L' _ _ => FX
  rename News g' L' _ _ => NX
  refine kla_eval rfl ?_
  k_dflt (refine' kla_hit FX NX T' CH rfl (by ktn_open) ?t ?n rfl ?_; (case t => kn_triples); (case n => kn_hit); k_whole)
  intro f3 ct3 h3 tk3 F3 N3 b3
  (try dsimp only at N3)
  have bb3 := b3
  k_lt bb3
  clear FX NX
  k_steps
  unfold Held
  rename Fr g' L' _ _ => FX
  rename News g' L' _ _ => NX
  refine kla_eval rfl ?_
  k_dflt (refine' kla_hit FX NX T' CH rfl (by ktn_open) ?t ?n rfl ?_; (case t => kn_triples); (case n => kn_hit); k_whole)
  intro f4 ct4 h4 tk4 F4 N4 b4
  (try dsimp only at N4)
  have bb4 := b4
  k_lt bb4
  clear FX NX
  k_steps
  unfold Held
  rename Fr g' L' _ _ => FX
  rename News g' L' _ _ => NX
  refine kla_eval rfl ?_
  k_dflt (refine' kla_hit FX NX T' CH rfl (by ktn_open) ?t ?n rfl ?_; (case t => kn_triples); (case n => kn_hit); k_whole)
  intro f5 ct5 h5 tk5 F5 N5 b5
  (try dsimp only at N5)
  have bb5 := b5
  k_lt bb5
  clear FX NX
  k_steps
  unfold Held
  rename Fr g' L' _ _ => FX
  rename News g' L' _ _ => NX
  refine kla_eval rfl ?_
  k_dflt (refine' kla_hit FX NX T' CH rfl (by ktn_open) ?t ?n rfl ?_; (case t => kn_triples); (case n => kn_hit); k_whole)
  intro f6 ct6 h6 tk6 F6 N6 b6
  (try dsimp only at N6)
  have bb6 := b6
  k_lt bb6
  clear FX NX
  k_steps
  unfold Held
  rename Fr g' L' _ _ => FX
  rename News g' L' _ _ => NX
  refine iter_tup_led (items := [.ref f1, .ref f2, .ref f3, .ref f4, .ref f5, .ref f6]) FX NX (.head _) ?_
  intro it io h8 F8 N8 hio bit
  have NL := news_mid (pre := [_, _, _, _, _, _, _]) (fun p hp => N8 p (.tail _ hp))
  simp only [List.cons_append, List.nil_append] at NL
  have NM := news_cons N8 NL
  have NMb := all_mid (pre := [_, _, _, _, _, _, _]) bit
  simp only [List.cons_append, List.nil_append] at NMb
  refine loop_raise (fs := [f1, f2, f3, f4, f5, f6]) hmk' B' X' T' D' X T (by omega) (by omega) F8 NM hio (by ktn_open) (by k_all) (Nat.ne_of_lt (bit (l, listOf #[] 0) (by ktn_open))) (fun p hp => Nat.ne_of_lt (NMb p hp)) (Nat.le_of_ble_eq_true rfl) (forall_in_cons ⟨_, _, _, _, by ktn_open⟩ (forall_in_cons ⟨_, _, _, _, by ktn_open⟩ (forall_in_cons ⟨_, _, _, _, by ktn_open⟩ (forall_in_cons ⟨_, _, _, _, by ktn_open⟩ (forall_in_cons ⟨_, _, _, _, by ktn_open⟩ (forall_in_cons ⟨_, _, _, _, by ktn_open⟩ (forall_in_nil))))))) ?Cs ?fin
  case Cs => 
    exact forall_in_cons (⟨_, (List.forall_mem_append.mpr ⟨forall_in_cons (by ktn_open) (forall_in_cons (by ktn_open) (forall_in_cons (by ktn_open) (forall_in_cons (by ktn_open) forall_in_nil))), fun q hq => .tail _ (.tail _ (.tail _ (.tail _ (.tail _ (.tail _ (.tail _ (.tail _ (.tail _ (.tail _ (.tail _ (.tail _ (.tail _ (.tail _ (.tail _ (.tail _ (hq))))))))))))))))⟩), lam_raise hmk' (op := .Eq) (fd := 63) (fun _ _ => rfl) (by k_is) (by k_is) hn hty dd1 dd2 da1 db1 (d_raise_eq hmk' hcm C) (forall_in_cons (fun r hr => Nat.ne_of_gt (b1 r (.tail _ (.tail _ (.tail _ (.tail _ (.tail _ (.tail _ (.tail _ (.tail _ (.tail _ (.tail _ (hr))))))))))))) (forall_in_cons (fun r hr => hap r (ho r hr) _ (by ktn_open)) (forall_in_cons (fun r hr => Nat.ne_of_gt (Nat.lt_trans (b0 r (.tail _ (.tail _ (.tail _ (.tail _ (.tail _ (.tail _ (.tail _ (hr))))))))) (Nat.lt_succ_of_lt (Nat.lt_succ_self L')))) (forall_in_cons (fun r hr => Nat.ne_of_gt (Nat.lt_trans (b0 r (.tail _ (.tail _ (.tail _ (.tail _ (.tail _ (.tail _ (.tail _ (hr))))))))) (Nat.lt_succ_self L'))) forall_in_nil))))⟩) (forall_in_cons (⟨_, (List.forall_mem_append.mpr ⟨forall_in_cons (by ktn_open) (forall_in_cons (by ktn_open) (forall_in_cons (by ktn_open) (forall_in_cons (by ktn_open) forall_in_nil))), fun q hq => .tail _ (.tail _ (.tail _ (.tail _ (.tail _ (.tail _ (.tail _ (.tail _ (.tail _ (.tail _ (.tail _ (.tail _ (.tail _ (.tail _ (.tail _ (.tail _ (hq))))))))))))))))⟩), lam_raise hmk' (op := .NotEq) (fd := 70) (fun _ _ => rfl) (by k_is) (by k_is) hn hty dd1 dd2 da2 db2 (d_raise_ne hmk' hcm C) (forall_in_cons (fun r hr => Nat.ne_of_gt (b2 r (.tail _ (.tail _ (.tail _ (.tail _ (.tail _ (.tail _ (.tail _ (.tail _ (.tail _ (.tail _ (.tail _ (hr)))))))))))))) (forall_in_cons (fun r hr => hap r (ho r hr) _ (by ktn_open)) (forall_in_cons (fun r hr => Nat.ne_of_gt (Nat.lt_trans (b0 r (.tail _ (.tail _ (.tail _ (.tail _ (.tail _ (.tail _ (.tail _ (hr))))))))) (Nat.lt_succ_of_lt (Nat.lt_succ_self L')))) (forall_in_cons (fun r hr => Nat.ne_of_gt (Nat.lt_trans (b0 r (.tail _ (.tail _ (.tail _ (.tail _ (.tail _ (.tail _ (.tail _ (hr))))))))) (Nat.lt_succ_self L'))) forall_in_nil))))⟩) (forall_in_cons (⟨_, (List.forall_mem_append.mpr ⟨forall_in_cons (by ktn_open) (forall_in_cons (by ktn_open) (forall_in_cons (by ktn_open) (forall_in_cons (by ktn_open) forall_in_nil))), fun q hq => .tail _ (.tail _ (.tail _ (.tail _ (.tail _ (.tail _ (.tail _ (.tail _ (.tail _ (.tail _ (.tail _ (.tail _ (.tail _ (.tail _ (.tail _ (.tail _ (hq))))))))))))))))⟩), lam_raise hmk' (op := .Lt) (fd := 77) (fun _ _ => rfl) (by k_is) (by k_is) hn hty dd1 dd2 da3 db3 (d_raise_lt hmk' hcm C) (forall_in_cons (fun r hr => Nat.ne_of_gt (b3 r (.tail _ (.tail _ (.tail _ (.tail _ (.tail _ (.tail _ (.tail _ (.tail _ (.tail _ (.tail _ (.tail _ (.tail _ (hr))))))))))))))) (forall_in_cons (fun r hr => hap r (ho r hr) _ (by ktn_open)) (forall_in_cons (fun r hr => Nat.ne_of_gt (Nat.lt_trans (b0 r (.tail _ (.tail _ (.tail _ (.tail _ (.tail _ (.tail _ (.tail _ (hr))))))))) (Nat.lt_succ_of_lt (Nat.lt_succ_self L')))) (forall_in_cons (fun r hr => Nat.ne_of_gt (Nat.lt_trans (b0 r (.tail _ (.tail _ (.tail _ (.tail _ (.tail _ (.tail _ (.tail _ (hr))))))))) (Nat.lt_succ_self L'))) forall_in_nil))))⟩) (forall_in_cons (⟨_, (List.forall_mem_append.mpr ⟨forall_in_cons (by ktn_open) (forall_in_cons (by ktn_open) (forall_in_cons (by ktn_open) (forall_in_cons (by ktn_open) forall_in_nil))), fun q hq => .tail _ (.tail _ (.tail _ (.tail _ (.tail _ (.tail _ (.tail _ (.tail _ (.tail _ (.tail _ (.tail _ (.tail _ (.tail _ (.tail _ (.tail _ (.tail _ (hq))))))))))))))))⟩), lam_raise hmk' (op := .Gt) (fd := 84) (fun _ _ => rfl) (by k_is) (by k_is) hn hty dd1 dd2 da4 db4 (d_raise_gt hmk' hcm C) (forall_in_cons (fun r hr => Nat.ne_of_gt (b4 r (.tail _ (.tail _ (.tail _ (.tail _ (.tail _ (.tail _ (.tail _ (.tail _ (.tail _ (.tail _ (.tail _ (.tail _ (.tail _ (hr)))))))))))))))) (forall_in_cons (fun r hr => hap r (ho r hr) _ (by ktn_open)) (forall_in_cons (fun r hr => Nat.ne_of_gt (Nat.lt_trans (b0 r (.tail _ (.tail _ (.tail _ (.tail _ (.tail _ (.tail _ (.tail _ (hr))))))))) (Nat.lt_succ_of_lt (Nat.lt_succ_self L')))) (forall_in_cons (fun r hr => Nat.ne_of_gt (Nat.lt_trans (b0 r (.tail _ (.tail _ (.tail _ (.tail _ (.tail _ (.tail _ (.tail _ (hr))))))))) (Nat.lt_succ_self L'))) forall_in_nil))))⟩) (forall_in_cons (⟨_, (List.forall_mem_append.mpr ⟨forall_in_cons (by ktn_open) (forall_in_cons (by ktn_open) (forall_in_cons (by ktn_open) (forall_in_cons (by ktn_open) forall_in_nil))), fun q hq => .tail _ (.tail _ (.tail _ (.tail _ (.tail _ (.tail _ (.tail _ (.tail _ (.tail _ (.tail _ (.tail _ (.tail _ (.tail _ (.tail _ (.tail _ (.tail _ (hq))))))))))))))))⟩), lam_raise hmk' (op := .LtE) (fd := 91) (fun _ _ => rfl) (by k_is) (by k_is) hn hty dd1 dd2 da5 db5 (d_raise_le hmk' hcm C) (forall_in_cons (fun r hr => Nat.ne_of_gt (b5 r (.tail _ (.tail _ (.tail _ (.tail _ (.tail _ (.tail _ (.tail _ (.tail _ (.tail _ (.tail _ (.tail _ (.tail _ (.tail _ (.tail _ (hr))))))))))))))))) (forall_in_cons (fun r hr => hap r (ho r hr) _ (by ktn_open)) (forall_in_cons (fun r hr => Nat.ne_of_gt (Nat.lt_trans (b0 r (.tail _ (.tail _ (.tail _ (.tail _ (.tail _ (.tail _ (.tail _ (hr))))))))) (Nat.lt_succ_of_lt (Nat.lt_succ_self L')))) (forall_in_cons (fun r hr => Nat.ne_of_gt (Nat.lt_trans (b0 r (.tail _ (.tail _ (.tail _ (.tail _ (.tail _ (.tail _ (.tail _ (hr))))))))) (Nat.lt_succ_self L'))) forall_in_nil))))⟩) (forall_in_cons (⟨_, (List.forall_mem_append.mpr ⟨forall_in_cons (by ktn_open) (forall_in_cons (by ktn_open) (forall_in_cons (by ktn_open) (forall_in_cons (by ktn_open) forall_in_nil))), fun q hq => .tail _ (.tail _ (.tail _ (.tail _ (.tail _ (.tail _ (.tail _ (.tail _ (.tail _ (.tail _ (.tail _ (.tail _ (.tail _ (.tail _ (.tail _ (.tail _ (hq))))))))))))))))⟩), lam_raise hmk' (op := .GtE) (fd := 98) (fun _ _ => rfl) (by k_is) (by k_is) hn hty dd1 dd2 da6 db6 (d_raise_ge hmk' hcm C) (forall_in_cons (fun r hr => Nat.ne_of_gt (b6 r (.tail _ (.tail _ (.tail _ (.tail _ (.tail _ (.tail _ (.tail _ (.tail _ (.tail _ (.tail _ (.tail _ (.tail _ (.tail _ (.tail _ (.tail _ (hr)))))))))))))))))) (forall_in_cons (fun r hr => hap r (ho r hr) _ (by ktn_open)) (forall_in_cons (fun r hr => Nat.ne_of_gt (Nat.lt_trans (b0 r (.tail _ (.tail _ (.tail _ (.tail _ (.tail _ (.tail _ (.tail _ (hr))))))))) (Nat.lt_succ_of_lt (Nat.lt_succ_self L')))) (forall_in_cons (fun r hr => Nat.ne_of_gt (Nat.lt_trans (b0 r (.tail _ (.tail _ (.tail _ (.tail _ (.tail _ (.tail _ (.tail _ (hr))))))))) (Nat.lt_succ_self L'))) forall_in_nil))))⟩) (forall_in_nil))))))
  case fin =>
    intro g9 h9 tk9 dv9 n9 vs9 TT9 F9 N9 hl9 hr9
    k_steps
    rename Fr g9 L' _ _ => FA
    rename News g9 L' _ _ => NA
    refine ⟨g9, L', _, _, TT9, FA, NA, fun h₀' T₀ kF kN kB => ?_⟩
    obtain ⟨kF2, kN2⟩ := turn_back T₀ kF kN
    kts_tail
    have bX : ∀ r ∈ subX x dx es n yl, r.1 < l := fun r hr => Nat.lt_trans (b0 r (.tail _ (.tail _ (.tail _ (.tail _ (.tail _ (.tail _ (.tail _ (hr))))))))) (by omega)
    obtain ⟨hO, way⟩ := fin_cmp (env := envX cn cs L a ccd cl) (others := others) rfl N GS TT9 FA kN2 (fun q hq => by
      rcases List.mem_append.mp (show q ∈ tabLed k1 k2 k3 k4 k5 k6 q1 q2 q3 q4 q5 q6 ++ subX x dx es n yl from hq) with h | h
      · exact List.mem_append_left _ h
      · exact List.mem_append_right _ (ho q h)) (fun q hq => List.mem_append_right _ hq) (fun q hq hm => by
      rcases List.mem_append.mp (show q ∈ tabLed k1 k2 k3 k4 k5 k6 q1 q2 q3 q4 q5 q6 ++ subX x dx es n yl from hm) with h | h
      · exact absurd rfl (hap q hq q h)
      · exact .tail _ (.tail _ (.tail _ (.tail _ (.tail _ (.tail _ (.tail _ (.tail _ (.tail _ (.tail _ (.tail _ (.tail _ (.tail _ (.tail _ (.tail _ (.tail _ (.tail _ (h))))))))))))))))))
    have apn : ∀ q ∈ others, ∀ p ∈ (tabLed k1 k2 k3 k4 k5 k6 q1 q2 q3 q4 q5 q6 : Led), p.1 ≠ q.1 := hap
    refine hret l _ (tabLed k1 k2 k3 k4 k5 k6 q1 q2 q3 q4 q5 q6) _ _ vs9 (.inr ⟨k1, k2, k3, k4, k5, k6, q1, q2, q3, q4, q5, q6, ⟨_, _, da1, db1⟩, ⟨_, _, da2, db2⟩, ⟨_, _, da3, db3⟩, ⟨_, _, da4, db4⟩, ⟨_, _, da5, db5⟩, ⟨_, _, da6, db6⟩, rfl⟩) kF2 (news_cons kN2 (List.forall_mem_append.mpr ⟨forall_in_cons (kN2 _ (by ktn_open)) (forall_in_cons (kN2 _ (by ktn_open)) (forall_in_cons (kN2 _ (by ktn_open)) (forall_in_cons (kN2 _ (by ktn_open)) (forall_in_cons (kN2 _ (by ktn_open)) (forall_in_cons (kN2 _ (by ktn_open)) (forall_in_cons (kN2 _ (by ktn_open)) (forall_in_nil))))))), hO⟩)) apn (List.forall_mem_append.mpr ⟨forall_in_cons (by (try dsimp only); k_ne) (forall_in_cons (by (try dsimp only); k_ne) (forall_in_cons (by (try dsimp only); k_ne) (forall_in_cons (by (try dsimp only); k_ne) (forall_in_cons (by (try dsimp only); k_ne) (forall_in_cons (by (try dsimp only); k_ne) (forall_in_cons (by (try dsimp only); k_ne) (forall_in_nil))))))), fun q hq => ?_⟩) hl9 hr9
    exact (apartL (way q hq) (NA _ (.head _)).2.2 (fun hm => by
        rcases List.mem_append.mp (show q ∈ tabLed k1 k2 k3 k4 k5 k6 q1 q2 q3 q4 q5 q6 ++ subX x dx es n yl from hm) with h | h
        · exact absurd rfl (hap q hq q h)
        · exact Nat.ne_of_gt (bX q h))).symm
end Mine
end
section
open PySem PySem.W PyProof.Rows
namespace Mine
set_option maxRecDepth 100000
set_option linter.unusedVariables false
/-- _law_compared(x, ov) where _cmp answers 0 -/
theorem cmpd_ret (hmk : Marks hd.heap_39 PySem.Challenge.rw_vy0039_01) {prog : Program} {w : World} {p : Program} {loose : List Str} {mean : ExcName → Option Value} {mg mb : Str → Option Value} {x dx : Addr} {es : List DictEntry} {n : Nat} {ov tbv : Value} {yl others TB : Led} (hTB : LamTab TB) (hcm : getL "_cmp" es = some none)
  (hn : notFirst (hd.heap_39 w.params) 109 tbv = true) (hty : ∀ {g L h}, News g L h (subX x dx es n yl) → (hd.heap_39 w.params).In h → Looks (model prog w) h (typeOf ov) tbv) (h148 : ∀ p ∈ (subX x dx es n yl), p.1 ≠ 148)
  (ho : ∀ q ∈ subX x dx es n yl, q ∈ others) (hap : ∀ q ∈ others, ∀ p ∈ TB, p.1 ≠ q.1)
  (C : ∀ {news' : Led}, (∀ q ∈ subX x dx es n yl, q ∈ news') → VClaim 30 300 prog w (hd.heap_39 w.params) p loose mean mg mb 56 [.ref x, ov] news' (fun v => ∃ t, v = .int 0 t))
  (dp un : Nat) (gd : Option (List Code)) (cn : Str) (cs : Scope) (a : Addr) (ccd : Value) (cl : List (Str × Addr)) (A₀ : Around) (h₀ : Heap) (L : Addr) (m : Str → Option Value) (s : Shared) (Q E : Value → Shared → Prop) :
  Below A₀ h₀ [] h₀ → Fr h₀ L s.heap m → (hd.heap_39 w.params).In h₀ → CodeHd h₀ 152 148 → News h₀ L s.heap (TB ++ others) → Top p loose mean mg mb h₀ → cs.kind = .function → dp + 50 < recursionLimit → un + 360 < cLine →
  (∀ l nl TB' h' tk', LamTab TB' → Fr h₀ L h' m → News h₀ L h' ((l, listOf #[.bool true, .bool false, .bool false, .bool false, .bool true, .bool true] nl) :: (TB' ++ others)) → (∀ q ∈ others, ∀ p ∈ TB', p.1 ≠ q.1) → (∀ q ∈ TB' ++ others, q.1 ≠ l) → Q (.ref l) { s with heap := h', toks := tk' }) →
  wpAny (model prog w) (ktrTop dp un gd cn cs L a ccd cl []) (call (.ref 153) [.ref x, ov]) Q E s := by
  rcases hTB with rfl | ⟨k1, k2, k3, k4, k5, k6, q1, q2, q3, q4, q5, q6, e1, e2, e3, e4, e5, e6, rfl⟩
  · exact cmpd_ret_e hmk hcm hn hty h148 ho hap C dp un gd cn cs a ccd cl A₀ h₀ L m s Q E
  · exact cmpd_ret_f hmk e1 e2 e3 e4 e5 e6 hcm hn hty ho hap C dp un gd cn cs a ccd cl A₀ h₀ L m s Q E
/-- _law_compared(x, ov) where _cmp raises -/
theorem cmpd_raise (hmk : Marks hd.heap_39 PySem.Challenge.rw_vy0039_01) {prog : Program} {w : World} {p : Program} {loose : List Str} {mean : ExcName → Option Value} {mg mb : Str → Option Value} {x dx : Addr} {es : List DictEntry} {n : Nat} {ov tbv : Value} {yl others TB : Led} (hTB : LamTab TB) (hcm : getL "_cmp" es = some none)
  (hn : notFirst (hd.heap_39 w.params) 109 tbv = true) (hty : ∀ {g L h}, News g L h (subX x dx es n yl) → (hd.heap_39 w.params).In h → Looks (model prog w) h (typeOf ov) tbv) (h148 : ∀ p ∈ (subX x dx es n yl), p.1 ≠ 148)
  (ho : ∀ q ∈ subX x dx es n yl, q ∈ others) (hap : ∀ q ∈ others, ∀ p ∈ TB, p.1 ≠ q.1)
  (C : RClaim 30 300 prog w (hd.heap_39 w.params) p loose mean mg mb 56 [.ref x, ov] (subX x dx es n yl))
  (dp un : Nat) (gd : Option (List Code)) (cn : Str) (cs : Scope) (a : Addr) (ccd : Value) (cl : List (Str × Addr)) (A₀ : Around) (h₀ : Heap) (L : Addr) (m : Str → Option Value) (s : Shared) (Q E : Value → Shared → Prop) :
  Below A₀ h₀ [] h₀ → Fr h₀ L s.heap m → (hd.heap_39 w.params).In h₀ → CodeHd h₀ 152 148 → News h₀ L s.heap (TB ++ others) → Top p loose mean mg mb h₀ → cs.kind = .function → dp + 50 < recursionLimit → un + 360 < cLine →
  (∀ l nl TB' h' tk' vs, LamTab TB' → Fr h₀ L h' m → News h₀ L h' ((l, listOf vs.toArray nl) :: (TB' ++ others)) → (∀ q ∈ others, ∀ p ∈ TB', p.1 ≠ q.1) → (∀ q ∈ TB' ++ others, q.1 ≠ l) → vs.length = 6 → Refd vs → Q (.ref l) { s with heap := h', toks := tk' }) →
  wpAny (model prog w) (ktrTop dp un gd cn cs L a ccd cl []) (call (.ref 153) [.ref x, ov]) Q E s := by
  rcases hTB with rfl | ⟨k1, k2, k3, k4, k5, k6, q1, q2, q3, q4, q5, q6, e1, e2, e3, e4, e5, e6, rfl⟩
  · exact cmpd_raise_e hmk hcm hn hty h148 ho hap C dp un gd cn cs a ccd cl A₀ h₀ L m s Q E
  · exact cmpd_raise_f hmk e1 e2 e3 e4 e5 e6 hcm hn hty ho hap C dp un gd cn cs a ccd cl A₀ h₀ L m s Q E
end Mine
end
section
open PySem PySem.W PyProof.Rows
namespace Mine
theorem off_Cm : True := by w_top off; exact True.intro
set_option maxRecDepth 100000
set_option linter.unusedVariables false
set_option linter.unusedSimpArgs false
set_option maxHeartbeats 8000000
local macro_rules | `(tactic| k_room) => `(tactic| ktr_room)
local macro_rules | `(tactic| k_units) => `(tactic| ktr_units)
local macro_rules | `(tactic| units_room) => `(tactic| ktr_units)
local macro_rules | `(tactic| ktn_open) => `(tactic| (repeat (first | exact List.Mem.head _ | refine List.Mem.tail _ ?_)))
local macro_rules | `(tactic| walk_at "getAttr ref") => `(tactic| (k_here; (with_reducible show wpAny _ _ (getAttr (Value.ref _) ("oid" : Str) _) _ _ _); k_dflt (refine' attr_oid ?k1 ?k2 ?k3 ?kp ?k4 ?k5 ?k6 ?k7 ?_; (case k1 => k_asm); (case k2 => k_asm); (case k3 => k_inst); (case kp => assumption); (case k4 => k_is); (case k5 => k_is); (case k6 => k_is); (case k7 => k_is); k_whole); intro _))
local macro_rules | `(tactic| walk_at "getAttr ref") => `(tactic| (k_here; (with_reducible show wpAny _ _ (getAttr (Value.ref _) ("database_name" : Str) _) _ _ _); k_dflt (refine' attr_db ?k1 ?k2 ?k3 ?kp ?k4 ?k5 ?k6 ?k7 ?k8 ?_; (case k1 => k_asm); (case k2 => k_asm); (case k3 => k_inst); (case kp => assumption); (case k4 => k_is); (case k5 => k_is); (case k6 => k_is); (case k7 => k_is); (case k8 => k_is); k_whole); intro _ _))
local macro_rules | `(tactic| walk_at "getAttr ref") => `(tactic| (k_here; (with_reducible show wpAny _ _ (getAttr (Value.ref _) ("weak" : Str) _) _ _ _); k_dflt (refine' attr_weak ?k1 ?k2 ?k3 ?kp ?k4 ?k5 ?k6 ?k7 ?k8 ?_; (case k1 => k_asm); (case k2 => k_asm); (case k3 => k_inst); (case kp => assumption); (case k4 => k_is); (case k5 => k_is); (case k6 => k_is); (case k7 => k_is); (case k8 => k_is); k_whole)))
local macro_rules | `(tactic| walk_at "compareOp Eq bytes bytes") => `(tactic| (k_here; first | (refine eq_oid_same ?_) | (refine eq_oid_ne (by assumption) ?_)))
local macro_rules | `(tactic| walk_at "compareOp Eq") => `(tactic| (k_here; first | (refine eq_db_same (by ktr_units) (by assumption) (by assumption) ?_) | (refine eq_db_ne (by assumption) (by ktr_units) (by assumption) (by assumption) ?_)))
local macro_rules | `(tactic| walk_at "compareOp Is ref int") => `(tactic| (k_here; refine isSame_other rfl ?_))
local macro_rules | `(tactic| walk_at "compareOp Is ref bytes") => `(tactic| (k_here; refine isSame_other rfl ?_))
local macro_rules | `(tactic| walk_at "leaving ref") => `(tactic| (k_here; refine held_ ?_))
theorem cmp_same (hmk : Marks hd.heap_39 PySem.Challenge.rw_vy0039_01) {prog : Program} {w : World} {p : Program} {loose : List Str} {mean : ExcName → Option Value} {mg mb : Str → Option Value} {x dx y dy : Addr} {es es' : List DictEntry} {n n' : Nat} {o o' : List UInt8} {db db' : Dt} {wk wk' : Bool}  {news : Led} (hs : ∀ p ∈ ([(x, instObj 109 dx), (dx, dictOf es n)] : Led), p ∈ news) :
  VClaim 30 300 prog w (hd.heap_39 w.params) p loose mean mg mb 56 [.ref x, .ref x] news (fun v => ∃ t, v = .int 0 t) := by
  intro dp un gd cn cs a ccd cl outer A₀ base h₀ L m s Q E
  revert hmk
  k_fill
  intro _ B F X N T hk hd hu hret
  have N0 : News h₀ L s.heap [(x, instObj 109 dx), (dx, dictOf es n)] := fun p hp => N p (hs p hp)
  refine wpAny_call ?_
  k_dflt (refine' code_defG ?k1 ?k2 ?k3 N0 ?k5 ?kA ?kF ?kK ?k6 ?k7 ?k8 ?k9 ?kB ?_ ?c2 ?c3 ?c4 ?c5; (case kA => exact rfl); (case kF => exact rfl); (case kK => assumption); (case k1 => k_asm); (case k2 => k_asm); (case k3 => k_asm); (case k5 => k_asm); (case k6 => k_is); (case k7 => k_is); (case k8 => ktr_room); (case k9 => exact BindsTo.of_eq rfl); (case c5 => decide); (case kB => exact locs rfl); (case c2 => exact rfl); (case c3 => exact rfl); (case c4 => exact rfl); k_whole; intro g' L' h' FG' F' N' B' X' T' GS; (try dsimp only); (try k_lift B'); (try k_fold))
  k_steps
  rename Fr h₀ L _ _ => kF1
  rename News h₀ L _ _ => kN1
  rename Fr g' L' _ _ => F1'
  exact hret _ _ _ kF1 (fin_def N hs GS F1' kN1 (fun _ h => h)) ⟨_, rfl⟩
theorem cmp_ret (hmk : Marks hd.heap_39 PySem.Challenge.rw_vy0039_01) {prog : Program} {w : World} {p : Program} {loose : List Str} {mean : ExcName → Option Value} {mg mb : Str → Option Value} {x dx y dy : Addr} {es es' : List DictEntry} {n n' : Nat} {o o' : List UInt8} {db db' : Dt} {wk wk' : Bool} (hxy : @Ne Nat x y) (P1 : PRd es o db false) (P2 : PRd es' o db false) {news : Led} (hs : ∀ p ∈ ([(x, instObj 109 dx), (dx, dictOf es n), (y, instObj 109 dy), (dy, dictOf es' n')] : Led), p ∈ news) :
  VClaim 30 300 prog w (hd.heap_39 w.params) p loose mean mg mb 56 [.ref x, .ref y] news (fun v => ∃ t, v = .int 0 t) := by
  intro dp un gd cn cs a ccd cl outer A₀ base h₀ L m s Q E
  revert hmk
  k_fill
  intro _ B F X N T hk hd hu hret
  have N0 : News h₀ L s.heap [(x, instObj 109 dx), (dx, dictOf es n), (y, instObj 109 dy), (dy, dictOf es' n')] := fun p hp => N p (hs p hp)
  refine wpAny_call ?_
  k_dflt (refine' code_defG ?k1 ?k2 ?k3 N0 ?k5 ?kA ?kF ?kK ?k6 ?k7 ?k8 ?k9 ?kB ?_ ?c2 ?c3 ?c4 ?c5; (case kA => exact rfl); (case kF => exact rfl); (case kK => assumption); (case k1 => k_asm); (case k2 => k_asm); (case k3 => k_asm); (case k5 => k_asm); (case k6 => k_is); (case k7 => k_is); (case k8 => ktr_room); (case k9 => exact BindsTo.of_eq rfl); (case c5 => decide); (case kB => exact locs rfl); (case c2 => exact rfl); (case c3 => exact rfl); (case c4 => exact rfl); k_whole; intro g' L' h' FG' F' N' B' X' T' GS; (try dsimp only); (try k_lift B'); (try k_fold))
  k_steps
  rename Fr h₀ L _ _ => kF1
  rename News h₀ L _ _ => kN1
  rename Fr g' L' _ _ => F1'
  exact hret _ _ _ kF1 (fin_def N hs GS F1' kN1 (fun _ h => h)) ⟨_, rfl⟩
theorem cmp_raise1 (hmk : Marks hd.heap_39 PySem.Challenge.rw_vy0039_01) {prog : Program} {w : World} {p : Program} {loose : List Str} {mean : ExcName → Option Value} {mg mb : Str → Option Value} {x dx y dy : Addr} {es es' : List DictEntry} {n n' : Nat} {o o' : List UInt8} {db db' : Dt} {wk wk' : Bool} (hxy : @Ne Nat x y) (P1 : PRd es o db wk) (P2 : PRd es' o' db' wk') (hne : o ≠ o') :
  RClaim 30 300 prog w (hd.heap_39 w.params) p loose mean mg mb 56 [.ref x, .ref y] [(x, instObj 109 dx), (dx, dictOf es n), (y, instObj 109 dy), (dy, dictOf es' n')] := by
  intro dp un gd cn cs a ccd cl outer A₀ base h₀ L m s Q E
  revert hmk
  k_fill
  intro _ B F X N0 T hk hd hu hret
  refine wpAny_call ?_
  k_dflt (refine' code_defG ?k1 ?k2 ?k3 N0 ?k5 ?kA ?kF ?kK ?k6 ?k7 ?k8 ?k9 ?kB ?_ ?c2 ?c3 ?c4 ?c5; (case kA => exact rfl); (case kF => exact rfl); (case kK => assumption); (case k1 => k_asm); (case k2 => k_asm); (case k3 => k_asm); (case k5 => k_asm); (case k6 => k_is); (case k7 => k_is); (case k8 => ktr_room); (case k9 => exact BindsTo.of_eq rfl); (case c5 => decide); (case kB => exact locs rfl); (case c2 => exact rfl); (case c3 => exact rfl); (case c4 => exact rfl); k_whole; intro g' L' h' FG' F' N' B' X' T' GS; (try dsimp only); (try k_lift B'); (try k_fold))
  k_steps
  unfold Held
  rename Fr g' L' _ _ => FF
  rename News g' L' _ _ => NN
  rename Heap.NewExc _ _ _ _ => HX
  refine leave_newX B' HX FF (news := [(x, instObj 109 dx), (dx, dictOf es n), (y, instObj 109 dy), (dy, dictOf es' n')]) (forall_in_cons (NN _ (by ktn_open)) (forall_in_cons (NN _ (by ktn_open)) (forall_in_cons (NN _ (by ktn_open)) (forall_in_cons (NN _ (by ktn_open)) (forall_in_nil))))) rfl rfl fun h9 R9 U9 => ?_
  exact hret _ _ _ _ FG' GS R9 U9
theorem cmp_raise2 (hmk : Marks hd.heap_39 PySem.Challenge.rw_vy0039_01) {prog : Program} {w : World} {p : Program} {loose : List Str} {mean : ExcName → Option Value} {mg mb : Str → Option Value} {x dx y dy : Addr} {es es' : List DictEntry} {n n' : Nat} {o o' : List UInt8} {db db' : Dt} {wk wk' : Bool} (hxy : @Ne Nat x y) (P1 : PRd es o db wk) (P2 : PRd es' o db' wk') (hne : db ≠ db') :
  RClaim 30 300 prog w (hd.heap_39 w.params) p loose mean mg mb 56 [.ref x, .ref y] [(x, instObj 109 dx), (dx, dictOf es n), (y, instObj 109 dy), (dy, dictOf es' n')] := by
  intro dp un gd cn cs a ccd cl outer A₀ base h₀ L m s Q E
  revert hmk
  k_fill
  intro _ B F X N0 T hk hd hu hret
  refine wpAny_call ?_
  k_dflt (refine' code_defG ?k1 ?k2 ?k3 N0 ?k5 ?kA ?kF ?kK ?k6 ?k7 ?k8 ?k9 ?kB ?_ ?c2 ?c3 ?c4 ?c5; (case kA => exact rfl); (case kF => exact rfl); (case kK => assumption); (case k1 => k_asm); (case k2 => k_asm); (case k3 => k_asm); (case k5 => k_asm); (case k6 => k_is); (case k7 => k_is); (case k8 => ktr_room); (case k9 => exact BindsTo.of_eq rfl); (case c5 => decide); (case kB => exact locs rfl); (case c2 => exact rfl); (case c3 => exact rfl); (case c4 => exact rfl); k_whole; intro g' L' h' FG' F' N' B' X' T' GS; (try dsimp only); (try k_lift B'); (try k_fold))
  k_steps
  unfold Held
  rename Fr g' L' _ _ => FF
  rename News g' L' _ _ => NN
  rename Heap.NewExc _ _ _ _ => HX
  refine leave_newX B' HX FF (news := [(x, instObj 109 dx), (dx, dictOf es n), (y, instObj 109 dy), (dy, dictOf es' n')]) (forall_in_cons (NN _ (by ktn_open)) (forall_in_cons (NN _ (by ktn_open)) (forall_in_cons (NN _ (by ktn_open)) (forall_in_cons (NN _ (by ktn_open)) (forall_in_nil))))) rfl rfl fun h9 R9 U9 => ?_
  exact hret _ _ _ _ FG' GS R9 U9
theorem cmp_raise3 (hmk : Marks hd.heap_39 PySem.Challenge.rw_vy0039_01) {prog : Program} {w : World} {p : Program} {loose : List Str} {mean : ExcName → Option Value} {mg mb : Str → Option Value} {x dx y dy : Addr} {es es' : List DictEntry} {n n' : Nat} {o o' : List UInt8} {db db' : Dt} {wk wk' : Bool} (hxy : @Ne Nat x y) (P1 : PRd es o db true) (P2 : PRd es' o db wk') :
  RClaim 30 300 prog w (hd.heap_39 w.params) p loose mean mg mb 56 [.ref x, .ref y] [(x, instObj 109 dx), (dx, dictOf es n), (y, instObj 109 dy), (dy, dictOf es' n')] := by
  intro dp un gd cn cs a ccd cl outer A₀ base h₀ L m s Q E
  revert hmk
  k_fill
  intro _ B F X N0 T hk hd hu hret
  refine wpAny_call ?_
  k_dflt (refine' code_defG ?k1 ?k2 ?k3 N0 ?k5 ?kA ?kF ?kK ?k6 ?k7 ?k8 ?k9 ?kB ?_ ?c2 ?c3 ?c4 ?c5; (case kA => exact rfl); (case kF => exact rfl); (case kK => assumption); (case k1 => k_asm); (case k2 => k_asm); (case k3 => k_asm); (case k5 => k_asm); (case k6 => k_is); (case k7 => k_is); (case k8 => ktr_room); (case k9 => exact BindsTo.of_eq rfl); (case c5 => decide); (case kB => exact locs rfl); (case c2 => exact rfl); (case c3 => exact rfl); (case c4 => exact rfl); k_whole; intro g' L' h' FG' F' N' B' X' T' GS; (try dsimp only); (try k_lift B'); (try k_fold))
  k_steps
  unfold Held
  rename Fr g' L' _ _ => FF
  rename News g' L' _ _ => NN
  rename Heap.NewExc _ _ _ _ => HX
  refine leave_newX B' HX FF (news := [(x, instObj 109 dx), (dx, dictOf es n), (y, instObj 109 dy), (dy, dictOf es' n')]) (forall_in_cons (NN _ (by ktn_open)) (forall_in_cons (NN _ (by ktn_open)) (forall_in_cons (NN _ (by ktn_open)) (forall_in_cons (NN _ (by ktn_open)) (forall_in_nil))))) rfl rfl fun h9 R9 U9 => ?_
  exact hret _ _ _ _ FG' GS R9 U9
theorem cmp_raise4 (hmk : Marks hd.heap_39 PySem.Challenge.rw_vy0039_01) {prog : Program} {w : World} {p : Program} {loose : List Str} {mean : ExcName → Option Value} {mg mb : Str → Option Value} {x dx y dy : Addr} {es es' : List DictEntry} {n n' : Nat} {o o' : List UInt8} {db db' : Dt} {wk wk' : Bool} (hxy : @Ne Nat x y) (P1 : PRd es o db false) (P2 : PRd es' o db true) :
  RClaim 30 300 prog w (hd.heap_39 w.params) p loose mean mg mb 56 [.ref x, .ref y] [(x, instObj 109 dx), (dx, dictOf es n), (y, instObj 109 dy), (dy, dictOf es' n')] := by
  intro dp un gd cn cs a ccd cl outer A₀ base h₀ L m s Q E
  revert hmk
  k_fill
  intro _ B F X N0 T hk hd hu hret
  refine wpAny_call ?_
  k_dflt (refine' code_defG ?k1 ?k2 ?k3 N0 ?k5 ?kA ?kF ?kK ?k6 ?k7 ?k8 ?k9 ?kB ?_ ?c2 ?c3 ?c4 ?c5; (case kA => exact rfl); (case kF => exact rfl); (case kK => assumption); (case k1 => k_asm); (case k2 => k_asm); (case k3 => k_asm); (case k5 => k_asm); (case k6 => k_is); (case k7 => k_is); (case k8 => ktr_room); (case k9 => exact BindsTo.of_eq rfl); (case c5 => decide); (case kB => exact locs rfl); (case c2 => exact rfl); (case c3 => exact rfl); (case c4 => exact rfl); k_whole; intro g' L' h' FG' F' N' B' X' T' GS; (try dsimp only); (try k_lift B'); (try k_fold))
  k_steps
  unfold Held
  rename Fr g' L' _ _ => FF
  rename News g' L' _ _ => NN
  rename Heap.NewExc _ _ _ _ => HX
  refine leave_newX B' HX FF (news := [(x, instObj 109 dx), (dx, dictOf es n), (y, instObj 109 dy), (dy, dictOf es' n')]) (forall_in_cons (NN _ (by ktn_open)) (forall_in_cons (NN _ (by ktn_open)) (forall_in_cons (NN _ (by ktn_open)) (forall_in_cons (NN _ (by ktn_open)) (forall_in_nil))))) rfl rfl fun h9 R9 U9 => ?_
  exact hret _ _ _ _ FG' GS R9 U9
theorem cmp_raise_int (hmk : Marks hd.heap_39 PySem.Challenge.rw_vy0039_01) {prog : Program} {w : World} {p : Program} {loose : List Str} {mean : ExcName → Option Value} {mg mb : Str → Option Value} {x dx y dy : Addr} {es es' : List DictEntry} {n n' : Nat} {o o' : List UInt8} {db db' : Dt} {wk wk' : Bool} {i : Int} {u : Tok} :
  RClaim 30 300 prog w (hd.heap_39 w.params) p loose mean mg mb 56 [.ref x, .int i u] [(x, instObj 109 dx), (dx, dictOf es n)] := by
  intro dp un gd cn cs a ccd cl outer A₀ base h₀ L m s Q E
  revert hmk
  k_fill
  intro _ B F X N0 T hk hd hu hret
  refine wpAny_call ?_
  k_dflt (refine' code_defG ?k1 ?k2 ?k3 N0 ?k5 ?kA ?kF ?kK ?k6 ?k7 ?k8 ?k9 ?kB ?_ ?c2 ?c3 ?c4 ?c5; (case kA => exact rfl); (case kF => exact rfl); (case kK => assumption); (case k1 => k_asm); (case k2 => k_asm); (case k3 => k_asm); (case k5 => k_asm); (case k6 => k_is); (case k7 => k_is); (case k8 => ktr_room); (case k9 => exact BindsTo.of_eq rfl); (case c5 => decide); (case kB => exact locs rfl); (case c2 => exact rfl); (case c3 => exact rfl); (case c4 => exact rfl); k_whole; intro g' L' h' FG' F' N' B' X' T' GS; (try dsimp only); (try k_lift B'); (try k_fold))
  k_steps
  unfold Held
  rename Fr g' L' _ _ => FF
  rename News g' L' _ _ => NN
  rename Heap.NewExc _ _ _ _ => HX
  refine leave_newX B' HX FF (news := [(x, instObj 109 dx), (dx, dictOf es n)]) (forall_in_cons (NN _ (by ktn_open)) (forall_in_cons (NN _ (by ktn_open)) (forall_in_nil))) rfl rfl fun h9 R9 U9 => ?_
  exact hret _ _ _ _ FG' GS R9 U9
theorem cmp_raise_bytes (hmk : Marks hd.heap_39 PySem.Challenge.rw_vy0039_01) {prog : Program} {w : World} {p : Program} {loose : List Str} {mean : ExcName → Option Value} {mg mb : Str → Option Value} {x dx y dy : Addr} {es es' : List DictEntry} {n n' : Nat} {o o' : List UInt8} {db db' : Dt} {wk wk' : Bool} {b : Array UInt8} {u : Tok} :
  RClaim 30 300 prog w (hd.heap_39 w.params) p loose mean mg mb 56 [.ref x, .bytes b u] [(x, instObj 109 dx), (dx, dictOf es n)] := by
  intro dp un gd cn cs a ccd cl outer A₀ base h₀ L m s Q E
  revert hmk
  k_fill
  intro _ B F X N0 T hk hd hu hret
  refine wpAny_call ?_
  k_dflt (refine' code_defG ?k1 ?k2 ?k3 N0 ?k5 ?kA ?kF ?kK ?k6 ?k7 ?k8 ?k9 ?kB ?_ ?c2 ?c3 ?c4 ?c5; (case kA => exact rfl); (case kF => exact rfl); (case kK => assumption); (case k1 => k_asm); (case k2 => k_asm); (case k3 => k_asm); (case k5 => k_asm); (case k6 => k_is); (case k7 => k_is); (case k8 => ktr_room); (case k9 => exact BindsTo.of_eq rfl); (case c5 => decide); (case kB => exact locs rfl); (case c2 => exact rfl); (case c3 => exact rfl); (case c4 => exact rfl); k_whole; intro g' L' h' FG' F' N' B' X' T' GS; (try dsimp only); (try k_lift B'); (try k_fold))
  k_steps
  unfold Held
  rename Fr g' L' _ _ => FF
  rename News g' L' _ _ => NN
  rename Heap.NewExc _ _ _ _ => HX
  refine leave_newX B' HX FF (news := [(x, instObj 109 dx), (dx, dictOf es n)]) (forall_in_cons (NN _ (by ktn_open)) (forall_in_cons (NN _ (by ktn_open)) (forall_in_nil))) rfl rfl fun h9 R9 U9 => ?_
  exact hret _ _ _ _ FG' GS R9 U9

end Mine
end
section
open PySem PySem.W PyProof.Rows
namespace Mine
set_option maxRecDepth 100000
set_option linter.unusedVariables false
set_option maxHeartbeats 4000000
local macro_rules | `(tactic| k_room) => `(tactic| ktr_room)
theorem lamTab_148 {TB : Led} (h : LamTab TB) : ∃ o, (148, o) ∈ TB := by
  rcases h with rfl | ⟨k1, k2, k3, k4, k5, k6, q1, q2, q3, q4, q5, q6, e1, e2, e3, e4, e5, e6, rfl⟩
  · exact ⟨_, .head _⟩
  · exact ⟨_, .head _⟩
theorem nf_ref (hmk : Marks hd.heap_39 PySem.Challenge.rw_vy0039_01) (w : World) : notFirst (hd.heap_39 w.params) 109 (.ref 109) = true := by
  revert hmk
  k_fill
  intro _
  k_is
theorem nf_int (hmk : Marks hd.heap_39 PySem.Challenge.rw_vy0039_01) (w : World) : notFirst (hd.heap_39 w.params) 109 (.type "int") = true := by
  revert hmk
  k_fill
  intro _
  k_is
theorem nf_bytes (hmk : Marks hd.heap_39 PySem.Challenge.rw_vy0039_01) (w : World) : notFirst (hd.heap_39 w.params) 109 (.type "bytes") = true := by
  revert hmk
  k_fill
  intro _
  k_is
section
variable {prog : Program} {w : World} {p : Program} {loose : List Str} {mean : ExcName → Option Value} {mg mb : Str → Option Value} {x y : Addr} {dv dv' : Value} {o o' : List UInt8} {db db' : Dt} {wk wk' : Bool} {others TB : Led}
/-- one reference against another -/
theorem compared_pr (hmk : Marks hd.heap_39 PySem.Challenge.rw_vy0039_01) (hTB : LamTab TB) (hx : IsPR others x dv o db wk) (hdb : DbD db) (hy : IsPR others y dv' o' db' wk') (hdb' : DbD db') (hap : ∀ q ∈ others, ∀ p ∈ TB, p.1 ≠ q.1)
  (dp un : Nat) (gd : Option (List Code)) (cn : Str) (cs : Scope) (a : Addr) (ccd : Value) (cl : List (Str × Addr)) (A₀ : Around) (h₀ : Heap) (L : Addr) (m : Str → Option Value) (s : Shared) (Q E : Value → Shared → Prop)
  (B : Below A₀ h₀ [] h₀) (F : Fr h₀ L s.heap m) (X : (hd.heap_39 w.params).In h₀) (C0 : CodeHd h₀ 152 148) (N : News h₀ L s.heap (TB ++ others)) (T : Top p loose mean mg mb h₀) (hk : cs.kind = .function) (hd1 : dp + 50 < recursionLimit) (hu1 : un + 360 < cLine)
  (hret : (x = y ∨ (o = o' ∧ db = db' ∧ wk = false ∧ wk' = false)) → ∀ l nl TB' h' tk', LamTab TB' → Fr h₀ L h' m → News h₀ L h' ((l, listOf #[.bool true, .bool false, .bool false, .bool false, .bool true, .bool true] nl) :: (TB' ++ others)) → (∀ q ∈ others, ∀ p ∈ TB', p.1 ≠ q.1) → (∀ q ∈ TB' ++ others, q.1 ≠ l) → Q (.ref l) { s with heap := h', toks := tk' })
  (hrai : ¬ (x = y ∨ (o = o' ∧ db = db' ∧ wk = false ∧ wk' = false)) → ∀ l nl TB' h' tk' vs, LamTab TB' → Fr h₀ L h' m → News h₀ L h' ((l, listOf vs.toArray nl) :: (TB' ++ others)) → (∀ q ∈ others, ∀ p ∈ TB', p.1 ≠ q.1) → (∀ q ∈ TB' ++ others, q.1 ≠ l) → vs.length = 6 → Refd vs → Q (.ref l) { s with heap := h', toks := tk' }) :
  wpAny (model prog w) (ktrTop dp un gd cn cs L a ccd cl []) (call (.ref 153) [.ref x, .ref y]) Q E s := by
  obtain ⟨dx, es, n, h1, h2, h3, P1⟩ := hx.prd hdb
  obtain ⟨dy, es', n', g1, g2, g3, P2⟩ := hy.prd hdb'
  obtain ⟨o148, m148⟩ := lamTab_148 hTB
  have off : ∀ {l : Led}, (∀ q ∈ l, q ∈ others) → ∀ q ∈ l, q.1 ≠ 148 := fun hl q hq e => hap q (hl q hq) _ m148 e.symm
  have cm1 := P1.2.2.2
  by_cases hxy : x = y
  · subst hxy
    have hs : ∀ q ∈ subX x dx es n [], q ∈ others := forall_in_cons h1 (forall_in_cons h2 forall_in_nil)
    exact cmpd_ret (yl := []) hmk hTB cm1 (nf_ref hmk w) (fun N X => (InstAt.of_news N (.head _) (.tail _ (.head _))).type) (off hs) hs hap (fun hq => cmp_same (y := x) (dy := dx) (es' := es) (n' := n) (o := o) (o' := o) (db := db) (db' := db) (wk := wk) (wk' := wk) hmk hq) dp un gd cn cs a ccd cl A₀ h₀ L m s Q E B F X C0 N T hk hd1 hu1 (hret (.inl rfl))
  · have hs : ∀ q ∈ subX x dx es n [(y, instObj 109 dy), (dy, dictOf es' n')], q ∈ others := forall_in_cons h1 (forall_in_cons h2 (forall_in_cons g1 (forall_in_cons g2 forall_in_nil)))
    have hty : ∀ {g L h}, News g L h (subX x dx es n [(y, instObj 109 dy), (dy, dictOf es' n')]) → (hd.heap_39 w.params).In h → Looks (model prog w) h (typeOf (.ref y)) (.ref 109) := fun N X => (InstAt.of_news N (.tail _ (.tail _ (.head _))) (.tail _ (.tail _ (.tail _ (.head _))))).type
    have rai : RClaim 30 300 prog w (hd.heap_39 w.params) p loose mean mg mb 56 [.ref x, .ref y] (subX x dx es n [(y, instObj 109 dy), (dy, dictOf es' n')]) → ¬ (x = y ∨ (o = o' ∧ db = db' ∧ wk = false ∧ wk' = false)) → wpAny (model prog w) (ktrTop dp un gd cn cs L a ccd cl []) (call (.ref 153) [.ref x, .ref y]) Q E s := fun C hne =>
      cmpd_raise hmk hTB cm1 (nf_ref hmk w) hty (off hs) hs hap C dp un gd cn cs a ccd cl A₀ h₀ L m s Q E B F X C0 N T hk hd1 hu1 (hrai hne)
    by_cases e1 : o = o'
    · subst e1
      by_cases e2 : db = db'
      · subst e2
        cases wk with
        | true => exact rai (cmp_raise3 (o' := o) (db' := db) (wk := true) hmk hxy P1 P2) (by rintro (h | ⟨_, _, h, _⟩); exact hxy h; cases h)
        | false =>
          cases wk' with
          | true => exact rai (cmp_raise4 (o' := o) (db' := db) (wk := true) (wk' := true) hmk hxy P1 P2) (by rintro (h | ⟨_, _, _, h⟩); exact hxy h; cases h)
          | false => exact cmpd_ret hmk hTB cm1 (nf_ref hmk w) hty (off hs) hs hap (fun hq => cmp_ret (o' := o) (db' := db) (wk := true) (wk' := true) hmk hxy P1 P2 hq) dp un gd cn cs a ccd cl A₀ h₀ L m s Q E B F X C0 N T hk hd1 hu1 (hret (.inr ⟨rfl, rfl, rfl, rfl⟩))
      · exact rai (cmp_raise2 (o' := o) hmk hxy P1 P2 e2) (by rintro (h | ⟨_, h, _⟩); exact hxy h; exact e2 h)
    · exact rai (cmp_raise1 hmk hxy P1 P2 e1) (by rintro (h | ⟨h, _⟩); exact hxy h; exact e1 h)
/-- a reference against a number or octets -/
theorem compared_plain (hmk : Marks hd.heap_39 PySem.Challenge.rw_vy0039_01) (hTB : LamTab TB) (hx : IsPR others x dv o db wk) (hdb : DbD db) (hap : ∀ q ∈ others, ∀ p ∈ TB, p.1 ≠ q.1) {ov : Value} (hov : (∃ i t, ov = .int i t) ∨ ∃ b t, ov = .bytes b t)
  (dp un : Nat) (gd : Option (List Code)) (cn : Str) (cs : Scope) (a : Addr) (ccd : Value) (cl : List (Str × Addr)) (A₀ : Around) (h₀ : Heap) (L : Addr) (m : Str → Option Value) (s : Shared) (Q E : Value → Shared → Prop)
  (B : Below A₀ h₀ [] h₀) (F : Fr h₀ L s.heap m) (X : (hd.heap_39 w.params).In h₀) (C0 : CodeHd h₀ 152 148) (N : News h₀ L s.heap (TB ++ others)) (T : Top p loose mean mg mb h₀) (hk : cs.kind = .function) (hd1 : dp + 50 < recursionLimit) (hu1 : un + 360 < cLine)
  (hrai : ∀ l nl TB' h' tk' vs, LamTab TB' → Fr h₀ L h' m → News h₀ L h' ((l, listOf vs.toArray nl) :: (TB' ++ others)) → (∀ q ∈ others, ∀ p ∈ TB', p.1 ≠ q.1) → (∀ q ∈ TB' ++ others, q.1 ≠ l) → vs.length = 6 → Refd vs → Q (.ref l) { s with heap := h', toks := tk' }) :
  wpAny (model prog w) (ktrTop dp un gd cn cs L a ccd cl []) (call (.ref 153) [.ref x, ov]) Q E s := by
  obtain ⟨dx, es, n, h1, h2, h3, P1⟩ := hx.prd hdb
  obtain ⟨o148, m148⟩ := lamTab_148 hTB
  have cm1 := P1.2.2.2
  have hs : ∀ q ∈ subX x dx es n [], q ∈ others := forall_in_cons h1 (forall_in_cons h2 forall_in_nil)
  have off : ∀ q ∈ subX x dx es n [], q.1 ≠ 148 := fun q hq e => hap q (hs q hq) _ m148 e.symm
  rcases hov with ⟨i, t, rfl⟩ | ⟨b, t, rfl⟩
  · exact cmpd_raise (yl := []) hmk hTB cm1 (nf_int hmk w) (fun N X => Looks.of_pure rfl) off hs hap (cmp_raise_int (y := x) (dy := dx) (es' := es) (n' := n) (o := o) (o' := o) (db := db) (db' := db) (wk := wk) (wk' := wk) hmk) dp un gd cn cs a ccd cl A₀ h₀ L m s Q E B F X C0 N T hk hd1 hu1 hrai
  · exact cmpd_raise (yl := []) hmk hTB cm1 (nf_bytes hmk w) (fun N X => Looks.of_pure rfl) off hs hap (cmp_raise_bytes (y := x) (dy := dx) (es' := es) (n' := n) (o := o) (o' := o) (db := db) (db' := db) (wk := wk) (wk' := wk) hmk) dp un gd cn cs a ccd cl A₀ h₀ L m s Q E B F X C0 N T hk hd1 hu1 hrai
end
end Mine
end
section
open PySem PySem.W PyProof.Rows
namespace Mine
set_option maxRecDepth 100000
open PySem.SeqAt
open Builtin
/-- data that a key of the factory's dict may be made of, not deeper than n -/
def okK : Nat → Dt → Bool
  | _, .none => true
  | _, .int _ => true
  | _, .str _ => true
  | _, .bytes _ => true
  | n + 1, .tup ds => ds.all (okK n)
  | _, _ => false
theorem okK_okD : ∀ (n : Nat) (d : Dt), okK n d = true → okD true n d = true
  | 0, d, h => by cases d <;> simp_all [okK, okD]
  | n + 1, .tup ds, h => by
    simp only [okK, okD, List.all_eq_true] at h ⊢
    exact fun x hx => okK_okD n x (h x hx)
  | n + 1, .none, _ => rfl
  | n + 1, .int _, _ => rfl
  | n + 1, .str _, _ => rfl
  | n + 1, .bytes _, _ => rfl
  | n + 1, .bool _, h => by simp [okK] at h
  | n + 1, .lst _, h => by simp [okK] at h
  | n + 1, .bad _, h => by simp [okK] at h
section
variable (prog : Program) (w : World)
mutual
def hD : Dt → Int
  | .none => reduceHash 0xFCA86420
  | .int i => (intKind prog w).hash i
  | .str x => (strKind prog w).hash x
  | .bytes b => (bytesKind prog w).hash b
  | .tup ds => reduceHash (Tuple.tupleHashOf (hDs ds))
  | _ => 0
def hDs : List Dt → List Int
  | [] => []
  | d :: ds => hD d :: hDs ds
end
mutual
def drD : Dt → Nat
  | .tup ds => drDs ds + 1
  | _ => 1
def drDs : List Dt → Nat
  | [] => 0
  | d :: ds => drD d + drDs ds
end
end
theorem hDs_append (prog : Program) (w : World) : ∀ a b : List Dt, hDs prog w (a ++ b) = hDs prog w a ++ hDs prog w b
  | [], _ => rfl
  | x :: a, b => by simp [hDs, hDs_append prog w a b]
theorem drDs_append : ∀ a b : List Dt, drDs (a ++ b) = drDs a + drDs b
  | [], b => by simp [drDs]
  | x :: a, b => by simp [drDs, drDs_append a b, Nat.add_assoc]
section
variable {prog : Program} {w : World}
theorem hash_leaf {A : Around} {E : Value → Shared → Prop} {s : Shared} {Q : Int → Shared → Prop} {v : Value} {d : Dt} (h0 : okK 0 d = true) (x : Rd s.heap v d) (h : Q (hD prog w d) { s with toks := s.toks + drD d }) : wpAny (model prog w) A (pyHash v) Q E s := by
  cases x with
  | none =>
    refine pyHash_slot (T := "NoneType") rfl PySem.F.slot_NoneType_hash PySem.F.entry_NoneType_hash (PySem.F.args_NoneType_hash_1 _) (beq_builtin_none _) (.inl rfl) ?_
    show wpAny _ _ (retInt 0xFCA86420) _ _ s
    show wpAny _ _ (mkInt _ >>= fun v => ret v) _ _ _
    exact wpAny_bind (wpAny_mkInt (wpAny_pure ⟨_, _, rfl, h⟩))
  | int i t => exact (intKind prog w).pyHash (k := i) (intKind_is prog w i t) h
  | str y t => exact (strKind prog w).pyHash (k := y) (by exact strKind_is prog w y t) h
  | bytes b t => exact (bytesKind prog w).pyHash (k := b) (by simp [bytesKind, isBytes]) h
  | bool b => simp [okK] at h0
  | tup _ _ => simp [okK] at h0
  | lst _ _ => simp [okK] at h0
theorem hash_data : ∀ (n : Nat) {A : Around} {E : Value → Shared → Prop} {s : Shared} {Q : Int → Shared → Prop} {v : Value} {d : Dt}, okK n d = true → A.units + n < cLine → Rd s.heap v d → Q (hD prog w d) { s with toks := s.toks + drD d } → wpAny (model prog w) A (pyHash v) Q E s := by
  intro n
  induction n with
  | zero => intro A E s Q v d h0 hu x h; exact hash_leaf h0 x h
  | succ n ih =>
    intro A E s Q v d h0 hu x h
    have leaf : okK 0 d = true → wpAny (model prog w) A (pyHash v) Q E s := fun h0 => hash_leaf h0 x h
    cases x with
    | none => exact leaf rfl
    | int i t => exact leaf rfl
    | str y t => exact leaf rfl
    | bytes b t => exact leaf rfl
    | bool b => simp [okK] at h0
    | lst _ _ => simp [okK] at h0
    | tup ht hr =>
      rename_i a vs ds
      clear leaf
      refine pyHash_slot (T := "tuple") ht.typeIs PySem.F.slot_tuple_hash PySem.F.entry_tuple_hash (PySem.F.args_tuple_hash_1 _) (beq_builtin_none _) (.inr (by omega)) ?_
      obtain ⟨o, ho, hc, k, hd⟩ := id ht
      show wpAny _ _ (Builtin.Tuple.tupleItemsOf (.ref a) >>= _) _ _ s
      refine wpAny_bind (wpAny_tupleItemsOf ho hd ?_)
      refine wpAny_bind ?_
      rw [← Array.forIn_toList]
      refine wpAny_forIn_list _
        (fun rest (b : Array Int) s' => ∃ done left, ds = done ++ left ∧ RdAll s.heap rest left ∧ b.toList = hDs prog w done ∧ s' = { s with toks := s.toks + drDs done })
        _ ?_ ?_ _ _ ⟨[], ds, rfl, hr, rfl, rfl⟩
      · rintro x rest b s' ⟨done, left, rfl, hl, hb, rfl⟩
        cases hl with
        | @cons _ _ d' left' hd hl =>
          have hd1 : okK n d' = true := by
            simp only [okK, List.all_eq_true] at h0
            exact h0 d' (by simp)
          refine wpAny_bind (ih hd1 (by simp only [Around.in1_units]; omega) hd ?_)
          exact wpAny_pure ⟨done ++ [d'], left', by simp, hl, by simp [hb, hDs_append, hDs], by simp [drDs_append, drDs, Nat.add_assoc]⟩
      · rintro b s' ⟨done, left, rfl, hl, hb, rfl⟩
        cases hl
        rw [List.append_nil] at h
        show wpAny _ _ (retInt (Builtin.Tuple.tupleHashOf b.toList)) _ _ _
        rw [hb]
        show wpAny _ _ (mkInt _ >>= fun v => ret v) _ _ _
        exact wpAny_bind (wpAny_mkInt (wpAny_pure ⟨_, _, rfl, by simpa [hD, drD, Nat.add_assoc] using h⟩))
theorem quiet_data : ∀ (n j : Nat) {A : Around} {E : Value → Shared → Prop} {s : Shared} {Q : Bool → Shared → Prop} {v : Value} {d : Dt}, okK n d = true → Rd s.heap v d → n ≤ j → Q true s → wpAny (model prog w) A (eqIsQuiet j v) Q E s := by
  intro n
  induction n with
  | zero =>
    intro j A E s Q v d h0 x hj h
    have hv : carriedByValue v = true := by cases x <;> first | rfl | simp [okK] at h0
    rw [eqIsQuiet_byValue _ hv]
    exact wpAny_pure h
  | succ n ih =>
    intro j A E s Q v d h0 x hj h
    have leaf : carriedByValue v = true → wpAny (model prog w) A (eqIsQuiet j v) Q E s := fun hv => by
      rw [eqIsQuiet_byValue _ hv]
      exact wpAny_pure h
    cases x with
    | none => exact leaf rfl
    | int i t => exact leaf rfl
    | str y t => exact leaf rfl
    | bytes b t => exact leaf rfl
    | bool b => simp [okK] at h0
    | lst _ _ => simp [okK] at h0
    | tup ht hr =>
      rename_i a vs ds
      clear leaf
      obtain ⟨j, rfl⟩ : ∃ j', j = j' + 1 := ⟨j - 1, by omega⟩
      have hT := ht.typeIs
      obtain ⟨o, ho, hc, k, hd⟩ := id ht
      unfold eqIsQuiet
      refine wpAny_bind (wpAny_specialOf hT PySem.F.slot_tuple_eq.lookup ?_)
      show wpAny _ _ (isInstance (.ref a) (.type "tuple") >>= _) _ _ s
      refine wpAny_bind (wpAny_isInstance hT isSubtype_tuple_tuple ?_)
      simp only [Bool.not_true, Bool.false_eq_true, if_false]
      refine wpAny_bind (wpAny_seqItems ho hd ?_)
      refine wpAny_bind ?_
      show wpAny _ _ (forIn vs.toArray _ _) _ _ s
      rw [← Array.forIn_toList]
      refine wpAny_forIn_list _ (fun rest r s' => r.1 = none ∧ s' = s ∧ ∃ left, RdAll s.heap rest left ∧ left.all (okK n) = true) _ ?_ ?_ _ _ ⟨rfl, rfl, ds, hr, by simpa [okK] using h0⟩
      · rintro v rest r s' ⟨hr', rfl, left, hl, hall⟩
        cases hl with
        | @cons _ _ d' left' hd' hl =>
          simp only [List.all_cons, Bool.and_eq_true] at hall
          refine wpAny_bind (ih j hall.1 hd' (by omega) ?_)
          simp only [Bool.not_true, Bool.false_eq_true, if_false]
          exact wpAny_pure ⟨rfl, rfl, left', hl, hall.2⟩
      · rintro ⟨r1, r2⟩ s' ⟨hr', rfl, _⟩
        simp only at hr'
        subst hr'
        exact wpAny_pure h
end
mutual
theorem Rd.keepsK {h h' : Heap} {x : Addr} {o : Obj} {es : Array DictEntry} {ep : Nat} (ho : h.get? x = some o) (hd : o.data = .dict es ep) (hs : Heap.SameBut x h h') : ∀ {v : Value} {d : Dt}, Rd h v d → Rd h' v d
  | _, _, .none => .none
  | _, _, .bool b => .bool b
  | _, _, .int i t => .int i t
  | _, _, .str y t => .str y t
  | _, _, .bytes b t => .bytes b t
  | _, _, .tup (a := a) ht r => .tup (by
      obtain ⟨o', ho', hc, n, hd'⟩ := ht
      refine ⟨o', (hs.2 a ?_).trans ho', hc, n, hd'⟩
      rintro rfl
      rw [ho] at ho'
      cases ho'
      rw [hd] at hd'
      cases hd') (RdAll.keepsK ho hd hs r)
  | _, _, .lst (a := a) ht r => .lst (by
      obtain ⟨o', ho', hc, n, hd'⟩ := ht
      refine ⟨o', (hs.2 a ?_).trans ho', hc, n, hd'⟩
      rintro rfl
      rw [ho] at ho'
      cases ho'
      rw [hd] at hd'
      cases hd') (RdAll.keepsK ho hd hs r)
theorem RdAll.keepsK {h h' : Heap} {x : Addr} {o : Obj} {es : Array DictEntry} {ep : Nat} (ho : h.get? x = some o) (hd : o.data = .dict es ep) (hs : Heap.SameBut x h h') : ∀ {vs : List Value} {ds : List Dt}, RdAll h vs ds → RdAll h' vs ds
  | _, _, .nil => .nil
  | _, _, .cons a r => .cons (Rd.keepsK ho hd hs a) (RdAll.keepsK ho hd hs r)
end
open Classical in
/-- keys of the factory's dict: tuples of data -/
noncomputable def keyKind (prog : Program) (w : World) : HeapKind prog w Dt where
  is := fun h d a => Rd h (.ref a) d ∧ okK 3 d = true
  hash := hD prog w
  draws := drD
  room := fun A => A.units + 8 < cLine
  inj := fun hx hy => hx.1.inj hy.1
  keeps := fun x ho hd hs => ⟨x.1.keepsK ho hd hs, x.2⟩
  pyHash := fun hu x h => hash_data 3 x.2 (by omega) x.1 h
  eqBool := fun {A E s x y a b Q} hu hx hy h => (data_eq true 3 A _ _ _ _ (okK_okD 3 _ hx.2) (okK_okD 3 _ hy.2) (by omega) hx.1 hy.1).2 prog w E Q h
  quiet := fun hk h => quiet_data 3 8 hk.2 hk.1 (by decide) h
end Mine
end
section
open PySem PySem.W PyProof.Rows
namespace Mine
set_option maxRecDepth 100000
open Builtin
abbrev OctAt (b : Array UInt8) (i : Nat) (v : Value) : Prop := ∃ c u, b[i]? = some c ∧ v = .int (c.toNat : Int) u
section
variable {prog : Program} {w : World} {A : Around} {E : Value → Shared → Prop} {s : Shared}
/-- octets drawn into a list -/
theorem collect_bytes {Q : List Value → Shared → Prop} (hh : A.handled = none) (b : Array UInt8) (t : Tok)
    (hQ : ∀ s' acc, (∀ c o, s.heap.get? c = some o → s'.heap.get? c = some o) → s'.gens = s.gens → s'.drawn = s.drawn → s'.os = s.os → ItemsOf (OctAt b) acc b.size → Q acc.toList s') (hn : b.size ≤ sizeLine) :
    wpAny (model prog w) A (collect (.bytes b t)) Q E s := by
  unfold collect
  refine wpAny_bind (wpAny_runValue (codeAny_builtin F.entry_proto_collect ?_))
  rw [Around.under_plainId F.plain_proto_collect _]
  show wpAny _ A.in1 (newList [] >>= fun l => again (.builtin "list.__iadd__" ⟨[l, .bytes b t], []⟩)) _ _ s
  refine wpAny_bind (wpAny_newObj_type ?_)
  refine wpAny_pure ⟨plainId_quiet F.plain_list_iadd _, codeAny_builtin F.entry_list_iadd ?_⟩
  rw [Around.under_plainId F.plain_list_iadd _]
  show wpAny _ A.in1 (Builtin.List.listExtendWith (.ref s.heap.objs.size) (.bytes b t) (.ref s.heap.objs.size)) _ _ _
  unfold Builtin.List.listExtendWith
  refine wpAny_bind (wpAny_typeOf (T := "bytes") (typeIs_bytes _ b t) ?_)
  have h1 : Builtin.List.listSameRef (.ref s.heap.objs.size) (.bytes b t) = false := rfl
  have h2 : (Value.type "bytes" == Value.type "list") = false := by decide
  have h3 : (Value.type "bytes" == Value.type "tuple") = false := by decide
  simp only [h1, h2, h3, Bool.or_false, Bool.false_eq_true, if_false]
  refine wpAny_bind (KBw.pyIter_bytes ?_)
  generalize hH : s.heap.push { cls := .type "list", data := .seq ([] : List Value).toArray } = H
  refine wpAny_bind (wpAny_holding ?_)
  unfold Builtin.List.listLengthHint
  refine wpAny_bind (wpAny_specialOf (typeIs_bytes _ b t) FB.slot_bytes_len.lookup ?_)
  wp_delta
  refine wpAny_bind (wpAny_isInstance (T := "bytes") (b := true) (typeIs_bytes _ b t) (by rw [isSubtype_type]; kernel_rfl) ?_)
  show wpAny _ A.in1 (typeOf (Value.bytes b t) >>= _) _ _ _
  refine wpAny_bind (wpAny_typeOf (T := "bytes") (typeIs_bytes _ b t) ?_)
  refine wpAny_pure ?_
  rw [if_neg (by decide)]
  have hHs : H.objs.size = s.heap.objs.size + 1 := by rw [← hH, Heap.size_push]
  have hSf : s.heap.objs.size ∉ [H.objs.size] := fun hm => by rw [List.mem_singleton.mp hm] at hHs; exact absurd hHs (Nat.ne_of_lt (Nat.lt_succ_self _))
  have hS : (H.push { cls := .type "bytes_iterator", data := .fields #[.bytes b t, .int 0 0] }).get? s.heap.objs.size = some { cls := .type "list", data := .seq ([] : List Value).toArray } := Heap.get?_push_of_some _ (hH ▸ Heap.get?_push_size _ rfl)
  refine wpAny_pure ⟨plainId_quiet F.plain_extend_loop _, codeAny_extend_loopS (KBw.walks (A := A.in1) hh H.objs.size b t).toS hn _ hSf _ b.size 0 _ _ _ rfl (Nat.zero_le _) ⟨_, Heap.get?_push_size _ rfl, rfl, rfl⟩ hS (ItemsOf.nil _) fun s' acc' c' hm hS' hacc => ?_⟩
  show wpAny _ A (load s.heap.objs.size >>= _) _ _ s'
  refine wpAny_bind (wpAny_load hS' ?_)
  refine wpAny_pure (hQ s' acc' (fun c ob e => hm.heap c ob (fun hb => ?_) (Heap.get?_push_of_some _ (hH ▸ Heap.get?_push_of_some _ e))) hm.gens hm.drawn hm.os hacc)
  have hlt := Heap.lt_size e
  rcases List.mem_cons.mp hb with h | h
  · exact absurd hlt (h ▸ Nat.lt_irrefl _)
  · rw [List.mem_singleton.mp h, hHs] at hlt; exact absurd hlt (Nat.not_lt.mpr (Nat.le_succ _))
end
open AutoSeq1 (wpAny_loadPart')
theorem meets_tuple_new_bytes (b : Array UInt8) (t : Tok) (hsz : b.size ≤ sizeLine) :
    Meets (Builtin.«tuple.__new__» ⟨[.type "tuple", .bytes b t], []⟩)
      (fun A R s => A.handled = none ∧ ∀ (s' : Shared) (acc : Array Value), (∀ c o, s.heap.get? c = some o → s'.heap.get? c = some o) → s'.gens = s.gens → s'.drawn = s.drawn → s'.os = s.os → ItemsOf (OctAt b) acc b.size →
        R (.ok (.ret (.ref s'.heap.objs.size))) { s' with heap := s'.heap.push { cls := .type "tuple", data := .seq acc } }) :=
  .of_wp fun prog w A R s h => by
    obtain ⟨hh, h⟩ := h
    have hsub := sub_tuple_self
    have hinit := init_tuple_lookup
    have hmh := madeHere_tuple
    have hT : s.TypeIs (.bytes b t) "bytes" := typeIs_bytes s b t
    have hh1 : A.in1.handled = none := hh
    wp_walk using wpAny_typeOf hT, collect_bytes (hn := hsz) hh1 b t
    intro s' acc hk hg hd hos hacc
    show wpAny _ _ (Builtin.Tuple.tupleExact acc.toList.toArray >>= fun v => ret v) _ _ _
    unfold Builtin.Tuple.tupleExact
    refine wpAny_bind (wpAny_newObj_type ?_ (show acc.toList.toArray.size ≤ sizeLine by simp only [Array.toArray_toList]; rw [hacc.1]; exact hsz))
    refine wpAny_pure ⟨_, rfl, ?_⟩
    have e : acc.toList.toArray = acc := by simp
    rw [e]
    exact h s' acc hk hg hd hos hacc
section
variable {prog : Program} {w : World} {A : Around} {E : Value → Shared → Prop} {s : Shared} {h₀ : Heap} {L : Addr} {m : Str → Option Value} {news : List (Addr × Obj)}
theorem tuple_bytes {b : Array UInt8} {t : Tok} {Q : Value → Shared → Prop} (hh : A.handled = none) (F : Fr h₀ L s.heap m) (N : News h₀ L s.heap news) (hsz : b.size ≤ sizeLine)
    (h : ∀ D h' tk (ys : List Value), Fr h₀ L h' m → News h₀ L h' ((D, ({ cls := .type "tuple", data := .seq ys.toArray } : Obj)) :: news) → (∀ p ∈ news, p.1 < D) → AreOf ItemKind.int ys (KBw.bInts b) → Q (.ref D) { s with heap := h', toks := tk }) :
    wpAny (model prog w) A (call (.type "tuple") [.bytes b t]) Q E s := by
  refine callType_new PySem.F.called_tuple (by decide) (PySem.F.typeCall_tuple_1 _) (PySem.F.newCall_tuple_1 _) (fun obj => PySem.F.args_object_init_2 obj _) PySem.F.entry_tuple_new
    (meets_tuple_new_bytes b t hsz) ⟨hh, fun s' acc hk hg hd hos hacc => ⟨⟨_, Heap.get?_push_size _ rfl, rfl⟩, ?_⟩⟩
  obtain ⟨h', g', d', tk', os'⟩ := s'
  have e1 : g' = s.gens := hg
  have e2 : d' = s.drawn := hd
  have e3 : os' = s.os := hos
  subst e1 e2 e3
  have F' : Fr h₀ L h' m := F.keeps hk
  have N' : News h₀ L h' news := fun p hp => ⟨hk _ _ (N p hp).1, (N p hp).2⟩
  have F2 : Fr h₀ L (h'.push { cls := .type "tuple", data := .seq acc }) m := F'.push _
  refine h h'.objs.size _ tk' acc.toList F2 ?_ (fun p hp => Heap.lt_size (N' p hp).1) (areOf_bytes (by rw [← hacc.1]; simp) fun j v hv => hacc.2 j v (by simpa using hv))
  have e : acc.toList.toArray = acc := by simp
  rw [e]
  exact News.more F2 (fun p hp => ⟨Heap.get?_push_of_some _ (N' p hp).1, (N' p hp).2⟩) (Heap.get?_push_size _ rfl) (fun es n q => by cases q) (none_at_end F')
theorem tuple_str {x : Str} {t : Tok} {Q : Value → Shared → Prop} (hh : A.handled = none) (F : Fr h₀ L s.heap m) (N : News h₀ L s.heap news) (hsz : x.length ≤ sizeLine)
    (h : ∀ D h' tk (ys : List Value), Fr h₀ L h' m → News h₀ L h' ((D, ({ cls := .type "tuple", data := .seq ys.toArray } : Obj)) :: news) → (∀ p ∈ news, p.1 < D) → CarriedAll ys ((signs x).map .str) → Q (.ref D) { s with heap := h', toks := tk }) :
    wpAny (model prog w) A (call (.type "tuple") [.str x t]) Q E s := by
  refine call_tuple_str (hsz := hsz) hh x t fun h' tk acc hk hacc => ?_
  have F' : Fr h₀ L h' m := F.keeps hk
  have N' : News h₀ L h' news := fun p hp => ⟨hk _ _ (N p hp).1, (N p hp).2⟩
  have F2 : Fr h₀ L (h'.push { cls := .type "tuple", data := .seq acc }) m := F'.push _
  refine h h'.objs.size _ tk acc.toList F2 ?_ (fun p hp => Heap.lt_size (N' p hp).1) (carriedAll_of_get _ _ (by simp [hacc.1, signs]) fun j v hv => ?_)
  · have e : acc.toList.toArray = acc := by simp
    rw [e]
    exact News.more F2 (fun p hp => ⟨Heap.get?_push_of_some _ (N' p hp).1, (N' p hp).2⟩) (Heap.get?_push_size _ rfl) (fun es n q => by cases q) (none_at_end F')
  · obtain ⟨c, u, hc, rfl⟩ := hacc.2 j v (by simpa using hv)
    exact ⟨.str ⟨#[c]⟩, by simp [signs, hc], .str _ _⟩
end
end Mine
end
section
open PySem PySem.W PyProof.Rows
namespace Mine
set_option maxRecDepth 100000
open scoped Classical
/-- the factory's dict as an object -/

def TabObj (prog : Program) (w : World) (o : Obj) (xs : List (Dt × Addr × Value)) : Prop :=
  o.ExactDict ∧ (∃ es ep, o.data = .dict es ep ∧ es.toList = xs.map (entryOfKey (keyKind prog w))) ∧ (xs.map (·.1)).Nodup
/-- the keys read in a heap -/
def KeysIn (h : Heap) (xs : List (Dt × Addr × Value)) : Prop := ∀ x ∈ xs, Rd h (.ref x.2.1) x.1 ∧ okK 3 x.1 = true
mutual
theorem Rd.keeps {h h' : Heap} (k : ∀ b o, h.get? b = some o → h'.get? b = some o) : ∀ {v : Value} {d : Dt}, Rd h v d → Rd h' v d
  | _, _, .none => .none
  | _, _, .bool b => .bool b
  | _, _, .int i t => .int i t
  | _, _, .str y t => .str y t
  | _, _, .bytes b t => .bytes b t
  | _, _, .tup ht r => .tup (let ⟨o, ho, x⟩ := ht; ⟨o, k _ _ ho, x⟩) (RdAll.keeps k r)
  | _, _, .lst ht r => .lst (let ⟨o, ho, x⟩ := ht; ⟨o, k _ _ ho, x⟩) (RdAll.keeps k r)
theorem RdAll.keeps {h h' : Heap} (k : ∀ b o, h.get? b = some o → h'.get? b = some o) : ∀ {vs : List Value} {ds : List Dt}, RdAll h vs ds → RdAll h' vs ds
  | _, _, .nil => .nil
  | _, _, .cons a r => .cons (Rd.keeps k a) (RdAll.keeps k r)
end
theorem KeysIn.keeps {h h' : Heap} {xs : List (Dt × Addr × Value)} (K : KeysIn h xs) (k : ∀ b o, h.get? b = some o → h'.get? b = some o) : KeysIn h' xs := fun x hx => ⟨(K x hx).1.keeps k, (K x hx).2⟩
theorem TabObj.at {prog : Program} {w : World} {o : Obj} {xs : List (Dt × Addr × Value)} (T : TabObj prog w o xs) {h : Heap} {kd : Addr} (ho : h.get? kd = some o) (K : KeysIn h xs) : h.DictOfH (keyKind prog w) kd xs :=
  let ⟨hc, ⟨es, ep, hd, he⟩, hn⟩ := T; ⟨o, es, ep, ho, hc, hd, he, K, hn⟩
theorem TabObj.nil {prog : Program} {w : World} {o : Obj} (h : o.IsDictOf (strKind prog w) []) : TabObj prog w o [] := by
  obtain ⟨es, ep, hc, hd, _, hp, _⟩ := h
  refine ⟨hc, ⟨es, ep, hd, ?_⟩, List.nodup_nil⟩
  generalize es.toList = l at hp
  cases hp
  rfl
section
variable {prog : Program} {w : World} {A : Around} {E : Value → Shared → Prop} {s : Shared} {g : Heap} {L kd ka : Addr} {m : Str → Option Value} {news : Led} {KO : Obj} {xs : List (Dt × Addr × Value)} {k : Dt}
theorem tab_get_method {pl : Sem Bool} {Q : Value × List Value → Shared → Prop} (N : News g L s.heap news) (hm : (kd, KO) ∈ news) (T : TabObj prog w KO xs) (K : KeysIn s.heap xs) (h : Q (.builtin "dict.get", [.ref kd]) s) :
    wpAny (model prog w) A (getMethod (.ref kd) "get" pl) Q E s :=
  getMethod_builtin (T.at (N.get hm) K).typeIs PySem.F.plainAttrs_dict PySem.F.slot_dict_get PySem.F.type_dict_get (dictOfH_noDict (T.at (N.get hm) K)) h
theorem tab_get {dflt : Value} {Q : Value → Shared → Prop} (hu : A.units + 9 < cLine) (N : News g L s.heap news) (hm : (kd, KO) ∈ news) (T : TabObj prog w KO xs) (K : KeysIn s.heap xs) (lo : (kd == sysModules) = false)
    (hk : Rd s.heap (.ref ka) k) (ok : okK 3 k = true) (h : ∀ tk, Q (((atKey xs k).map (·.2)).getD dflt) { s with toks := tk }) : wpAny (model prog w) A (call (.builtin "dict.get") [.ref kd, .ref ka, dflt]) Q E s :=
  call_meetsIn PySem.F.slot_dict_get (T.at (N.get hm) K).typeIs PySem.F.entry_dict_get (PySem.F.args_dict_get_3 _ _ _) (meetsH_dict_get_default (keyKind prog w) kd ka lo dflt)
    ⟨(show A.in1.units + 8 < cLine by simp only [Around.in1_units]; omega), k, xs, ⟨hk, ok⟩, T.at (N.get hm) K, h _⟩
theorem tab_set {v : Value} {gg : Obj → Led} {Q : Unit → Shared → Prop} (hu : A.units + 9 < cLine) (F : Fr g L s.heap m) (N : News g L s.heap news) (U : UpdF kd KO news gg) (T : TabObj prog w KO xs) (K : KeysIn s.heap xs)
    (hk : Rd s.heap (.ref ka) k) (ok : okK 3 k = true) (hz : xs.length ≤ sizeLine)
    (h : ∀ h' KO' tk, Fr g L h' m → News g L h' (gg KO') → TabObj prog w KO' (storedH xs k ka v) → Q () { s with heap := h', toks := tk }) : wpAny (model prog w) A (setItem (.ref kd) (.ref ka) v) Q E s := by
  obtain ⟨pre, post, rfl, hg, a, b⟩ := U.split
  have hmem : (kd, KO) ∈ pre ++ (kd, KO) :: post := List.mem_append_right _ (.head _)
  refine wpAny_setItem_heap (knd := keyKind prog w) (k := k) (hsz := hz) (show A.in1.units + 8 < cLine by simp only [Around.in1_units]; omega) ⟨hk, ok⟩ (T.at (N.get hmem) K) fun h' hm' hs => ?_
  obtain ⟨o', es', ep', ho', hc', hd', he', _, hn'⟩ := hm'
  exact h h' o' _ (F.change hs (N _ hmem).2.1 (N.fresh hmem)) (hg o' ▸ N.setAt a b hs ho') ⟨hc', ⟨es', ep', hd', he'⟩, hn'⟩
end
end Mine
end
section
open PySem PySem.W PySem.Spec PySem.Calls PyProof.Rows
namespace Mine
set_option maxRecDepth 100000
/-- a contract whose base may turn, where part of the ledger lies in the base -/
abbrev ClaimB (prog : Program) (w : World) (K : Frag) (p : Program) (loose : List Str) (mean : ExcName → Option Value) (mg mb : Str → Option Value) (f : Addr) (vs : List Value) (rl news : Led) (R : Value → Led → Prop) : Prop :=
  ∀ (dp un : Nat) (gd : Option (List Code)) (cn : Str) (cs : Scope) (a : Addr) (ccd : Value) (cl : List (Str × Addr)) (outer : List Env) (A₀ : Around) (base h₀ : Heap) (L : Addr) (m : Str → Option Value) (s : Shared) (Q E : Value → Shared → Prop),
    Below A₀ base outer h₀ → Fr h₀ L s.heap m → News h₀ L s.heap news → cs.kind = .function →
    K.In base → Top p loose mean mg mb base → KtsDicts (outer.filterMap (·.frame)) h₀ → (∀ q ∈ rl, h₀.get? q.1 = some q.2 ∧ base.get? q.1 = none ∧ q.1 ∉ outer.filterMap (·.frame)) →
    dp + 30 < recursionLimit → un + 300 < cLine →
    (∀ v tl h₀' h' tk', KtsTurn (outer.filterMap (·.frame)) h₀ h₀' → Below A₀ base outer h₀' → Fr h₀' L h' m → News h₀' L h' (tl ++ news) → (∀ q ∈ news, ∀ p ∈ tl, p.1 ≠ q.1) → (∀ q ∈ rl, h₀'.get? q.1 = some q.2) → R v tl → Q v { s with heap := h', toks := tk' }) →
    wpAny (model prog w) (ktrTop dp un gd cn cs L a ccd cl outer) (call (.ref f) vs) Q E s
theorem ClaimT.based {prog : Program} {w : World} {K : Frag} {p : Program} {loose : List Str} {mean : ExcName → Option Value} {mg mb : Str → Option Value} {f : Addr} {vs : List Value} {rl news : Led} {R : Value → Led → Prop}
    (c : ClaimT prog w K p loose mean mg mb f vs (rl ++ news) R) : ClaimB prog w K p loose mean mg mb f vs rl news R := by
  intro dp un gd cn cs a ccd cl outer A₀ base h₀ L m s Q E B F N hk XB TB D hrl hd hu hret
  have nm : ∀ b o, base.get? b = some o → b ∉ rl.map (·.1) := fun b o e q => by
    obtain ⟨p, hp, rfl⟩ := List.mem_map.mp q
    rw [(hrl p hp).2.1] at e; cases e
  have nf : ∀ b ∈ outer.filterMap (·.frame), b ∉ rl.map (·.1) := fun b hb q => by
    obtain ⟨p, hp, rfl⟩ := List.mem_map.mp q
    exact (hrl p hp).2.2 hb
  have B₁ : Below A₀ base outer (hideAll h₀ (rl.map (·.1))) := ⟨B.stack, fun b o e => hideAll_get _ (B.stays b o e) (nm b o e), funFrames_hideAll B.frames fun env he b hb hf => nf b (List.mem_filterMap.mpr ⟨env, he, hf⟩) hb⟩
  have F₁ : Fr (hideAll h₀ (rl.map (·.1))) L s.heap m := ⟨F.ns, fun b o e => F.keep b o (of_hideAll _ e), Nat.le_trans (Nat.le_of_eq (hideAll_size _ _)) F.above⟩
  have N₁ : News (hideAll h₀ (rl.map (·.1))) L s.heap (rl ++ news) := fun q hq => by
    rcases List.mem_append.mp hq with hq | hq
    · refine ⟨F.keep _ _ (hrl q hq).1, fun e => ?_, hideAll_none _ (List.mem_map_of_mem hq)⟩
      have := (hrl q hq).1
      rw [e, kts_self F] at this; cases this
    · refine ⟨(N q hq).1, (N q hq).2.1, ?_⟩
      cases e : (hideAll h₀ (rl.map (·.1))).get? q.1 with
      | none => rfl
      | some o => have := of_hideAll _ e; rw [(N q hq).2.2] at this; cases this
  refine c dp un gd cn cs a ccd cl outer A₀ base _ L m s Q E B₁ F₁ (XB.keeps B₁.stays) N₁ (TB.keeps B₁.stays) hk XB TB (fun b hb => ?_) hd hu fun v tl h₁' h' tk' T' B' F' N' ne r => ?_
  · obtain ⟨o, es, n, ho, hdd⟩ := D b hb
    exact ⟨o, es, n, hideAll_get _ ho (nf b hb), hdd⟩
  obtain ⟨T₁, S₁⟩ := kts_turn_at (h := h') (fs := outer.filterMap (·.frame)) (g := h₀)
    (fun b hb => by
      obtain ⟨_, o, ho', _⟩ := B.frames.mem hb
      exact ⟨o, ho'⟩)
    (fun b o e nmem => by
      by_cases hb : b ∈ rl.map (·.1)
      · obtain ⟨p, hp, rfl⟩ := List.mem_map.mp hb
        have := (hrl p hp).1
        rw [e] at this
        cases this
        exact (N' p (List.mem_append_right _ (List.mem_append_left _ hp))).1
      · exact F'.keep b o (T'.other b o (hideAll_get _ e hb) nmem))
    (fun b o e hm => by
      obtain ⟨sl', hs'⟩ := T'.up (hideAll_get _ e (nf b hm))
      exact ⟨sl', F'.keep _ _ hs'⟩)
  have B₃ : Below A₀ base outer (ktsHeap h' (outer.filterMap (·.frame)) h₀) := ⟨B.stack, fun b o e => T₁.other b o (B.stays b o e) (fun hm => by
    rw [(B.frames.mem hm).1] at e
    cases e), B.frames.of_keeps fun b o e _ => by
    obtain ⟨sl', hs'⟩ := T₁.up e
    exact ⟨_, hs', rfl⟩⟩
  refine hret v tl _ h' tk' T₁ B₃ ⟨F'.ns, S₁, by rw [T₁.size]; exact F.above⟩ (fun p hp => ?_) (fun q hq p hp => ne q (List.mem_append_right _ hq) p hp) (fun q hq => T₁.other _ _ (hrl q hq).1 (hrl q hq).2.2) r
  rcases List.mem_append.mp hp with hp | hp
  · have z := N' p (List.mem_append_left _ hp)
    refine ⟨z.1, z.2.1, T₁.none_ _ ?_⟩
    cases e : h₀.get? p.1 with
    | none => rfl
    | some o =>
      by_cases hb : p.1 ∈ rl.map (·.1)
      · obtain ⟨q, hq, e2⟩ := List.mem_map.mp hb
        exact absurd e2.symm (ne q (List.mem_append_left _ hq) p hp)
      · obtain ⟨sl, hs⟩ := T'.up (hideAll_get _ e hb)
        rw [z.2.2] at hs; cases hs
  · have z := N' p (List.mem_append_right _ (List.mem_append_right _ hp))
    exact ⟨z.1, z.2.1, T₁.none_ _ (N p hp).2.2⟩
end Mine
end
section
open PySem PySem.W PyProof.Rows
namespace Mine
theorem off_IniA : True := by w_top off; exact True.intro
set_option maxRecDepth 100000
set_option linter.unusedVariables false
set_option linter.unusedSimpArgs false
set_option maxHeartbeats 8000000
local macro_rules | `(tactic| k_room) => `(tactic| ktr_room)
local macro_rules | `(tactic| k_units) => `(tactic| ktr_units)
local macro_rules | `(tactic| units_room) => `(tactic| ktr_units)
local macro_rules | `(tactic| walk_at "getMethod str") => `(tactic| (k_here; (with_reducible refine method_encode ?_)))
local macro_rules | `(tactic| walk_at "call builtin:str.encode str str") => `(tactic| (k_here; (with_reducible show wpAny _ _ (call (Value.builtin "str.encode") [Value.str (txt (_ :: _)) _, Value.str _ _]) _ _ _); k_dflt (refine encode_ascii (by assumption) (by assumption) ?_); intro _ _))
local macro_rules | `(tactic| walk_at "call builtin:str.encode") => `(tactic| (k_here; (with_reducible show wpAny _ _ (call (Value.builtin "str.encode") [Value.str (txt (_ :: _)) _, Value.str _ _]) _ _ _); k_dflt (refine encode_ascii (by assumption) (by assumption) ?_); intro _ _))
local macro_rules | `(tactic| ktn_open) => `(tactic| (repeat (first | exact List.Mem.head _ | refine List.Mem.tail _ ?_)))
local macro_rules | `(tactic| walk_at "compareOp Eq bytes str") => `(tactic| (k_here; refine eq_bytes_str ?_))
theorem init_0 (hmk : Marks hd.heap_39 PySem.Challenge.rw_vy0039_01) {prog : Program} {w : World} {p : Program} {loose : List Str} {mean : ExcName → Option Value} {mg mb : Str → Option Value} (p0 : UInt8) (ps : List UInt8) (hz : (p0 :: ps).length ≤ sizeLine) (bs : Str) (t t2 t3 t4 : Tok) (r q qd z : Addr) (n1 n2 n3 : Nat) (hh : Int) (news : Led)
  (hs : ∀ p ∈ ([] : Led), p ∈ news) :
  Claim prog w (hd.heap_39 w.params) p loose mean mg mb 109 [.bytes (p0 :: ps).toArray t] news (fun v tl => ∃ x, v = .ref x ∧ IsPR tl x (.bytes (p0 :: ps).toArray t) (p0 :: ps) .none false) := by
  unfold Claim
  revert hmk
  k_fill
  intro _ dp un gd cn cs a ccd cl outer A₀ base h₀ L m s Q E B F X N T hk hd hu hret
  k_dflt (refine' call_cls ?k1 ?k2 ?k3 ?k4 ?k5 ?k6 ?_; (case k1 => k_asm); (case k2 => k_asm); (case k3 => exact N); (case k4 => k_is); (case k5 => k_is); (case k6 => k_is); k_whole; intro x1 d1 h1 F1 N1 l1 l2)
  have N0 : News h₀ L h1 ((x1, instObj 109 d1) :: (d1, dictOf [] 0) :: []) := fun p hp => N1 p (by
    rcases List.mem_cons.mp hp with rfl | hp
    · exact .head _
    · rcases List.mem_cons.mp hp with rfl | hp
      · exact .tail _ (.head _)
      · exact .tail _ (.tail _ (hs p hp)))
  have l3 : ∀ p ∈ ([] : Led), p.1 < d1 := fun p hp => l1 p (hs p hp)
  k_lt l3
  k_lt2 l2
  k_dflt (refine' code_defG ?k1 ?k2 ?k3 N0 ?k5 ?kA ?kF ?kK ?k6 ?k7 ?k8 ?k9 ?kB ?_ ?c2 ?c3 ?c4 ?c5; (case kA => exact rfl); (case kF => exact rfl); (case kK => assumption); (case k1 => k_asm); (case k2 => k_asm); (case k3 => k_asm); (case k5 => k_asm); (case k6 => k_is); (case k7 => k_is); (case k8 => ktr_room); (case k9 => exact BindsTo.of_eq rfl); (case c5 => decide); (case kB => exact locs rfl); (case c2 => exact rfl); (case c3 => exact rfl); (case c4 => exact rfl); k_whole; intro g' L' h' FG' F' N' B' X' T' GS; (try dsimp only); (try k_lift B'); (try k_fold))
  k_steps
  rename Fr h₀ L _ _ => kF1
  rename News h₀ L _ _ => kN1
  rename Fr g' L' _ _ => F1'
  rename News g' L' _ _ => N1'
  have hfin := fin_cls (tl := [(x1, _), (d1, _)]) N1 l1 l2 hs GS F1' N1' kN1 (forall_in_nil) (forall_in_cons (by ktn_open) (forall_in_cons (by ktn_open) forall_in_nil)) (forall_in_cons (forall_in_nil) (forall_in_cons (forall_in_nil) forall_in_nil))
  refine hret _ _ _ _ kF1 hfin.1 hfin.2 ?_
  clear hfin hret kF1 kN1 F1' N1'
  exact ⟨x1, rfl, d1, _, _, _, .head _, .tail _ (.head _), by k_get, by k_get, by (show getL _ _ = _); k_get, by (try simp only [Bool.false_eq_true, if_false, if_true]); k_get, by k_get⟩

theorem init_1 (hmk : Marks hd.heap_39 PySem.Challenge.rw_vy0039_01) {prog : Program} {w : World} {p : Program} {loose : List Str} {mean : ExcName → Option Value} {mg mb : Str → Option Value} (p0 : UInt8) (ps : List UInt8) (hc : ∀ b ∈ p0 :: ps, b.toNat < 128) (hz : (p0 :: ps).length ≤ sizeLine) (bs : Str) (t t2 t3 t4 : Tok) (r q qd z : Addr) (n1 n2 n3 : Nat) (hh : Int) (news : Led)
  (hs : ∀ p ∈ ([] : Led), p ∈ news) :
  Claim prog w (hd.heap_39 w.params) p loose mean mg mb 109 [.str (txt (p0 :: ps)) t] news (fun v tl => ∃ x, v = .ref x ∧ IsPR tl x (.str (txt (p0 :: ps)) t) (p0 :: ps) .none false) := by
  unfold Claim
  revert hmk
  k_fill
  intro _ dp un gd cn cs a ccd cl outer A₀ base h₀ L m s Q E B F X N T hk hd hu hret
  k_dflt (refine' call_cls ?k1 ?k2 ?k3 ?k4 ?k5 ?k6 ?_; (case k1 => k_asm); (case k2 => k_asm); (case k3 => exact N); (case k4 => k_is); (case k5 => k_is); (case k6 => k_is); k_whole; intro x1 d1 h1 F1 N1 l1 l2)
  have N0 : News h₀ L h1 ((x1, instObj 109 d1) :: (d1, dictOf [] 0) :: []) := fun p hp => N1 p (by
    rcases List.mem_cons.mp hp with rfl | hp
    · exact .head _
    · rcases List.mem_cons.mp hp with rfl | hp
      · exact .tail _ (.head _)
      · exact .tail _ (.tail _ (hs p hp)))
  have l3 : ∀ p ∈ ([] : Led), p.1 < d1 := fun p hp => l1 p (hs p hp)
  k_lt l3
  k_lt2 l2
  k_dflt (refine' code_defG ?k1 ?k2 ?k3 N0 ?k5 ?kA ?kF ?kK ?k6 ?k7 ?k8 ?k9 ?kB ?_ ?c2 ?c3 ?c4 ?c5; (case kA => exact rfl); (case kF => exact rfl); (case kK => assumption); (case k1 => k_asm); (case k2 => k_asm); (case k3 => k_asm); (case k5 => k_asm); (case k6 => k_is); (case k7 => k_is); (case k8 => ktr_room); (case k9 => exact BindsTo.of_eq rfl); (case c5 => decide); (case kB => exact locs rfl); (case c2 => exact rfl); (case c3 => exact rfl); (case c4 => exact rfl); k_whole; intro g' L' h' FG' F' N' B' X' T' GS; (try dsimp only); (try k_lift B'); (try k_fold))
  k_steps
  rename Fr h₀ L _ _ => kF1
  rename News h₀ L _ _ => kN1
  rename Fr g' L' _ _ => F1'
  rename News g' L' _ _ => N1'
  have hfin := fin_cls (tl := [(x1, _), (d1, _)]) N1 l1 l2 hs GS F1' N1' kN1 (forall_in_nil) (forall_in_cons (by ktn_open) (forall_in_cons (by ktn_open) forall_in_nil)) (forall_in_cons (forall_in_nil) (forall_in_cons (forall_in_nil) forall_in_nil))
  refine hret _ _ _ _ kF1 hfin.1 hfin.2 ?_
  clear hfin hret kF1 kN1 F1' N1'
  exact ⟨x1, rfl, d1, _, _, _, .head _, .tail _ (.head _), by k_get, by k_get, by (show getL _ _ = _); k_get, by (try simp only [Bool.false_eq_true, if_false, if_true]); k_get, by k_get⟩

theorem init_2 (hmk : Marks hd.heap_39 PySem.Challenge.rw_vy0039_01) {prog : Program} {w : World} {p : Program} {loose : List Str} {mean : ExcName → Option Value} {mg mb : Str → Option Value} (p0 : UInt8) (ps : List UInt8) (hz : (p0 :: ps).length ≤ sizeLine) (bs : Str) (t t2 t3 t4 : Tok) (r q qd z : Addr) (n1 n2 n3 : Nat) (hh : Int) (news : Led)
  (hs : ∀ p ∈ ([(r, ({ cls := .type "tuple", data := .seq #[.bytes (p0 :: ps).toArray t, .str "klass" t2] n1 } : Obj))] : Led), p ∈ news) :
  Claim prog w (hd.heap_39 w.params) p loose mean mg mb 109 [.ref r] news (fun v tl => ∃ x, v = .ref x ∧ IsPR tl x (.ref r) (p0 :: ps) .none false) := by
  unfold Claim
  revert hmk
  k_fill
  intro _ dp un gd cn cs a ccd cl outer A₀ base h₀ L m s Q E B F X N T hk hd hu hret
  k_dflt (refine' call_cls ?k1 ?k2 ?k3 ?k4 ?k5 ?k6 ?_; (case k1 => k_asm); (case k2 => k_asm); (case k3 => exact N); (case k4 => k_is); (case k5 => k_is); (case k6 => k_is); k_whole; intro x1 d1 h1 F1 N1 l1 l2)
  have N0 : News h₀ L h1 ((x1, instObj 109 d1) :: (d1, dictOf [] 0) :: [(r, ({ cls := .type "tuple", data := .seq #[.bytes (p0 :: ps).toArray t, .str "klass" t2] n1 } : Obj))]) := fun p hp => N1 p (by
    rcases List.mem_cons.mp hp with rfl | hp
    · exact .head _
    · rcases List.mem_cons.mp hp with rfl | hp
      · exact .tail _ (.head _)
      · exact .tail _ (.tail _ (hs p hp)))
  have l3 : ∀ p ∈ ([(r, ({ cls := .type "tuple", data := .seq #[.bytes (p0 :: ps).toArray t, .str "klass" t2] n1 } : Obj))] : Led), p.1 < d1 := fun p hp => l1 p (hs p hp)
  k_lt l3
  k_lt2 l2
  k_dflt (refine' code_defG ?k1 ?k2 ?k3 N0 ?k5 ?kA ?kF ?kK ?k6 ?k7 ?k8 ?k9 ?kB ?_ ?c2 ?c3 ?c4 ?c5; (case kA => exact rfl); (case kF => exact rfl); (case kK => assumption); (case k1 => k_asm); (case k2 => k_asm); (case k3 => k_asm); (case k5 => k_asm); (case k6 => k_is); (case k7 => k_is); (case k8 => ktr_room); (case k9 => exact BindsTo.of_eq rfl); (case c5 => decide); (case kB => exact locs rfl); (case c2 => exact rfl); (case c3 => exact rfl); (case c4 => exact rfl); k_whole; intro g' L' h' FG' F' N' B' X' T' GS; (try dsimp only); (try k_lift B'); (try k_fold))
  k_steps
  rename Fr h₀ L _ _ => kF1
  rename News h₀ L _ _ => kN1
  rename Fr g' L' _ _ => F1'
  rename News g' L' _ _ => N1'
  have hfin := fin_cls (tl := [(x1, _), (d1, _)]) N1 l1 l2 hs GS F1' N1' kN1 (forall_in_cons (by ktn_open) (forall_in_nil)) (forall_in_cons (by ktn_open) (forall_in_cons (by ktn_open) forall_in_nil)) (forall_in_cons (forall_in_cons (by (try dsimp only); k_ne) (forall_in_nil)) (forall_in_cons (forall_in_cons (by (try dsimp only); k_ne) (forall_in_nil)) forall_in_nil))
  refine hret _ _ _ _ kF1 hfin.1 hfin.2 ?_
  clear hfin hret kF1 kN1 F1' N1'
  exact ⟨x1, rfl, d1, _, _, _, .head _, .tail _ (.head _), by k_get, by k_get, by (show getL _ _ = _); k_get, by (try simp only [Bool.false_eq_true, if_false, if_true]); k_get, by k_get⟩

theorem init_3 (hmk : Marks hd.heap_39 PySem.Challenge.rw_vy0039_01) {prog : Program} {w : World} {p : Program} {loose : List Str} {mean : ExcName → Option Value} {mg mb : Str → Option Value} (p0 : UInt8) (ps : List UInt8) (hz : (p0 :: ps).length ≤ sizeLine) (bs : Str) (t t2 t3 t4 : Tok) (r q qd z : Addr) (n1 n2 n3 : Nat) (hh : Int) (news : Led)
  (hs : ∀ p ∈ ([(r, listOf #[.str "w" t2, .ref q] n1), (q, ({ cls := .type "tuple", data := .seq #[.bytes (p0 :: ps).toArray t] n2 } : Obj))] : Led), p ∈ news) :
  Claim prog w (hd.heap_39 w.params) p loose mean mg mb 109 [.ref r] news (fun v tl => ∃ x, v = .ref x ∧ IsPR tl x (.ref r) (p0 :: ps) .none true) := by
  unfold Claim
  revert hmk
  k_fill
  intro _ dp un gd cn cs a ccd cl outer A₀ base h₀ L m s Q E B F X N T hk hd hu hret
  k_dflt (refine' call_cls ?k1 ?k2 ?k3 ?k4 ?k5 ?k6 ?_; (case k1 => k_asm); (case k2 => k_asm); (case k3 => exact N); (case k4 => k_is); (case k5 => k_is); (case k6 => k_is); k_whole; intro x1 d1 h1 F1 N1 l1 l2)
  have N0 : News h₀ L h1 ((x1, instObj 109 d1) :: (d1, dictOf [] 0) :: [(r, listOf #[.str "w" t2, .ref q] n1), (q, ({ cls := .type "tuple", data := .seq #[.bytes (p0 :: ps).toArray t] n2 } : Obj))]) := fun p hp => N1 p (by
    rcases List.mem_cons.mp hp with rfl | hp
    · exact .head _
    · rcases List.mem_cons.mp hp with rfl | hp
      · exact .tail _ (.head _)
      · exact .tail _ (.tail _ (hs p hp)))
  have l3 : ∀ p ∈ ([(r, listOf #[.str "w" t2, .ref q] n1), (q, ({ cls := .type "tuple", data := .seq #[.bytes (p0 :: ps).toArray t] n2 } : Obj))] : Led), p.1 < d1 := fun p hp => l1 p (hs p hp)
  k_lt l3
  k_lt2 l2
  k_dflt (refine' code_defG ?k1 ?k2 ?k3 N0 ?k5 ?kA ?kF ?kK ?k6 ?k7 ?k8 ?k9 ?kB ?_ ?c2 ?c3 ?c4 ?c5; (case kA => exact rfl); (case kF => exact rfl); (case kK => assumption); (case k1 => k_asm); (case k2 => k_asm); (case k3 => k_asm); (case k5 => k_asm); (case k6 => k_is); (case k7 => k_is); (case k8 => ktr_room); (case k9 => exact BindsTo.of_eq rfl); (case c5 => decide); (case kB => exact locs rfl); (case c2 => exact rfl); (case c3 => exact rfl); (case c4 => exact rfl); k_whole; intro g' L' h' FG' F' N' B' X' T' GS; (try dsimp only); (try k_lift B'); (try k_fold))
  k_steps
  rename Fr h₀ L _ _ => kF1
  rename News h₀ L _ _ => kN1
  rename Fr g' L' _ _ => F1'
  rename News g' L' _ _ => N1'
  have hfin := fin_cls (tl := [(x1, _), (d1, _)]) N1 l1 l2 hs GS F1' N1' kN1 (forall_in_cons (by ktn_open) (forall_in_cons (by ktn_open) (forall_in_nil))) (forall_in_cons (by ktn_open) (forall_in_cons (by ktn_open) forall_in_nil)) (forall_in_cons (forall_in_cons (by (try dsimp only); k_ne) (forall_in_cons (by (try dsimp only); k_ne) (forall_in_nil))) (forall_in_cons (forall_in_cons (by (try dsimp only); k_ne) (forall_in_cons (by (try dsimp only); k_ne) (forall_in_nil))) forall_in_nil))
  refine hret _ _ _ _ kF1 hfin.1 hfin.2 ?_
  clear hfin hret kF1 kN1 F1' N1'
  exact ⟨x1, rfl, d1, _, _, _, .head _, .tail _ (.head _), by k_get, by k_get, by (show getL _ _ = _); k_get, by (try simp only [Bool.false_eq_true, if_false, if_true]); k_get, by k_get⟩

theorem init_5 (hmk : Marks hd.heap_39 PySem.Challenge.rw_vy0039_01) {prog : Program} {w : World} {p : Program} {loose : List Str} {mean : ExcName → Option Value} {mg mb : Str → Option Value} (p0 : UInt8) (ps : List UInt8) (hz : (p0 :: ps).length ≤ sizeLine) (bs : Str) (t t2 t3 t4 : Tok) (r q qd z : Addr) (n1 n2 n3 : Nat) (hh : Int) (news : Led)
  (hs : ∀ p ∈ ([(r, listOf #[.bytes (p0 :: ps).toArray t] n1)] : Led), p ∈ news) :
  Claim prog w (hd.heap_39 w.params) p loose mean mg mb 109 [.ref r] news (fun v tl => ∃ x, v = .ref x ∧ IsPR tl x (.ref r) (p0 :: ps) .none true) := by
  unfold Claim
  revert hmk
  k_fill
  intro _ dp un gd cn cs a ccd cl outer A₀ base h₀ L m s Q E B F X N T hk hd hu hret
  k_dflt (refine' call_cls ?k1 ?k2 ?k3 ?k4 ?k5 ?k6 ?_; (case k1 => k_asm); (case k2 => k_asm); (case k3 => exact N); (case k4 => k_is); (case k5 => k_is); (case k6 => k_is); k_whole; intro x1 d1 h1 F1 N1 l1 l2)
  have N0 : News h₀ L h1 ((x1, instObj 109 d1) :: (d1, dictOf [] 0) :: [(r, listOf #[.bytes (p0 :: ps).toArray t] n1)]) := fun p hp => N1 p (by
    rcases List.mem_cons.mp hp with rfl | hp
    · exact .head _
    · rcases List.mem_cons.mp hp with rfl | hp
      · exact .tail _ (.head _)
      · exact .tail _ (.tail _ (hs p hp)))
  have l3 : ∀ p ∈ ([(r, listOf #[.bytes (p0 :: ps).toArray t] n1)] : Led), p.1 < d1 := fun p hp => l1 p (hs p hp)
  k_lt l3
  k_lt2 l2
  k_dflt (refine' code_defG ?k1 ?k2 ?k3 N0 ?k5 ?kA ?kF ?kK ?k6 ?k7 ?k8 ?k9 ?kB ?_ ?c2 ?c3 ?c4 ?c5; (case kA => exact rfl); (case kF => exact rfl); (case kK => assumption); (case k1 => k_asm); (case k2 => k_asm); (case k3 => k_asm); (case k5 => k_asm); (case k6 => k_is); (case k7 => k_is); (case k8 => ktr_room); (case k9 => exact BindsTo.of_eq rfl); (case c5 => decide); (case kB => exact locs rfl); (case c2 => exact rfl); (case c3 => exact rfl); (case c4 => exact rfl); k_whole; intro g' L' h' FG' F' N' B' X' T' GS; (try dsimp only); (try k_lift B'); (try k_fold))
  k_steps
  rename Fr h₀ L _ _ => kF1
  rename News h₀ L _ _ => kN1
  rename Fr g' L' _ _ => F1'
  rename News g' L' _ _ => N1'
  have hfin := fin_cls (tl := [(x1, _), (d1, _)]) N1 l1 l2 hs GS F1' N1' kN1 (forall_in_cons (by ktn_open) (forall_in_nil)) (forall_in_cons (by ktn_open) (forall_in_cons (by ktn_open) forall_in_nil)) (forall_in_cons (forall_in_cons (by (try dsimp only); k_ne) (forall_in_nil)) (forall_in_cons (forall_in_cons (by (try dsimp only); k_ne) (forall_in_nil)) forall_in_nil))
  refine hret _ _ _ _ kF1 hfin.1 hfin.2 ?_
  clear hfin hret kF1 kN1 F1' N1'
  exact ⟨x1, rfl, d1, _, _, _, .head _, .tail _ (.head _), by k_get, by k_get, by (show getL _ _ = _); k_get, by (try simp only [Bool.false_eq_true, if_false, if_true]); k_get, by k_get⟩

theorem init_6 (hmk : Marks hd.heap_39 PySem.Challenge.rw_vy0039_01) {prog : Program} {w : World} {p : Program} {loose : List Str} {mean : ExcName → Option Value} {mg mb : Str → Option Value} (p0 : UInt8) (ps : List UInt8) (hz : (p0 :: ps).length ≤ sizeLine) (bs : Str) (t t2 t3 t4 : Tok) (r q qd z : Addr) (n1 n2 n3 : Nat) (hh : Int) (news : Led)
  (hs : ∀ p ∈ ([(r, listOf #[.str "n" t2, .ref q] n1), (q, ({ cls := .type "tuple", data := .seq #[.str bs t3, .bytes (p0 :: ps).toArray t] n2 } : Obj))] : Led), p ∈ news) :
  Claim prog w (hd.heap_39 w.params) p loose mean mg mb 109 [.ref r] news (fun v tl => ∃ x, v = .ref x ∧ IsPR tl x (.ref r) (p0 :: ps) (.str bs) false) := by
  unfold Claim
  revert hmk
  k_fill
  intro _ dp un gd cn cs a ccd cl outer A₀ base h₀ L m s Q E B F X N T hk hd hu hret
  k_dflt (refine' call_cls ?k1 ?k2 ?k3 ?k4 ?k5 ?k6 ?_; (case k1 => k_asm); (case k2 => k_asm); (case k3 => exact N); (case k4 => k_is); (case k5 => k_is); (case k6 => k_is); k_whole; intro x1 d1 h1 F1 N1 l1 l2)
  have N0 : News h₀ L h1 ((x1, instObj 109 d1) :: (d1, dictOf [] 0) :: [(r, listOf #[.str "n" t2, .ref q] n1), (q, ({ cls := .type "tuple", data := .seq #[.str bs t3, .bytes (p0 :: ps).toArray t] n2 } : Obj))]) := fun p hp => N1 p (by
    rcases List.mem_cons.mp hp with rfl | hp
    · exact .head _
    · rcases List.mem_cons.mp hp with rfl | hp
      · exact .tail _ (.head _)
      · exact .tail _ (.tail _ (hs p hp)))
  have l3 : ∀ p ∈ ([(r, listOf #[.str "n" t2, .ref q] n1), (q, ({ cls := .type "tuple", data := .seq #[.str bs t3, .bytes (p0 :: ps).toArray t] n2 } : Obj))] : Led), p.1 < d1 := fun p hp => l1 p (hs p hp)
  k_lt l3
  k_lt2 l2
  k_dflt (refine' code_defG ?k1 ?k2 ?k3 N0 ?k5 ?kA ?kF ?kK ?k6 ?k7 ?k8 ?k9 ?kB ?_ ?c2 ?c3 ?c4 ?c5; (case kA => exact rfl); (case kF => exact rfl); (case kK => assumption); (case k1 => k_asm); (case k2 => k_asm); (case k3 => k_asm); (case k5 => k_asm); (case k6 => k_is); (case k7 => k_is); (case k8 => ktr_room); (case k9 => exact BindsTo.of_eq rfl); (case c5 => decide); (case kB => exact locs rfl); (case c2 => exact rfl); (case c3 => exact rfl); (case c4 => exact rfl); k_whole; intro g' L' h' FG' F' N' B' X' T' GS; (try dsimp only); (try k_lift B'); (try k_fold))
  k_steps
  rename Fr h₀ L _ _ => kF1
  rename News h₀ L _ _ => kN1
  rename Fr g' L' _ _ => F1'
  rename News g' L' _ _ => N1'
  have hfin := fin_cls (tl := [(x1, _), (d1, _)]) N1 l1 l2 hs GS F1' N1' kN1 (forall_in_cons (by ktn_open) (forall_in_cons (by ktn_open) (forall_in_nil))) (forall_in_cons (by ktn_open) (forall_in_cons (by ktn_open) forall_in_nil)) (forall_in_cons (forall_in_cons (by (try dsimp only); k_ne) (forall_in_cons (by (try dsimp only); k_ne) (forall_in_nil))) (forall_in_cons (forall_in_cons (by (try dsimp only); k_ne) (forall_in_cons (by (try dsimp only); k_ne) (forall_in_nil))) forall_in_nil))
  refine hret _ _ _ _ kF1 hfin.1 hfin.2 ?_
  clear hfin hret kF1 kN1 F1' N1'
  exact ⟨x1, rfl, d1, _, _, _, .head _, .tail _ (.head _), by k_get, by k_get, ⟨_, by k_get⟩, by (try simp only [Bool.false_eq_true, if_false, if_true]); k_get, by k_get⟩
end Mine
end
section
open PySem PySem.W PyProof.Rows
namespace Mine
theorem off_IniB : True := by w_top off; exact True.intro
local macro_rules | `(tactic| walk_at "no such key 0") => `(tactic| fail)
set_option maxRecDepth 100000
set_option linter.unusedVariables false
set_option linter.unusedSimpArgs false
set_option maxHeartbeats 8000000
local macro_rules | `(tactic| k_room) => `(tactic| ktr_room)
local macro_rules | `(tactic| k_units) => `(tactic| ktr_units)
local macro_rules | `(tactic| units_room) => `(tactic| ktr_units)
local macro_rules | `(tactic| walk_at "getMethod str") => `(tactic| (k_here; (with_reducible refine method_encode ?_)))
local macro_rules | `(tactic| walk_at "call builtin:str.encode str str") => `(tactic| (k_here; (with_reducible show wpAny _ _ (call (Value.builtin "str.encode") [Value.str (txt (_ :: _)) _, Value.str _ _]) _ _ _); k_dflt (refine encode_ascii (by assumption) (by assumption) ?_); intro _ _))
local macro_rules | `(tactic| walk_at "call builtin:str.encode") => `(tactic| (k_here; (with_reducible show wpAny _ _ (call (Value.builtin "str.encode") [Value.str (txt (_ :: _)) _, Value.str _ _]) _ _ _); k_dflt (refine encode_ascii (by assumption) (by assumption) ?_); intro _ _))
local macro_rules | `(tactic| ktn_open) => `(tactic| (repeat (first | exact List.Mem.head _ | refine List.Mem.tail _ ?_)))
local macro_rules | `(tactic| walk_at "compareOp Eq bytes str") => `(tactic| (k_here; refine eq_bytes_str ?_))
theorem init_7 (hmk : Marks hd.heap_39 PySem.Challenge.rw_vy0039_01) {prog : Program} {w : World} {p : Program} {loose : List Str} {mean : ExcName → Option Value} {mg mb : Str → Option Value} (p0 : UInt8) (ps : List UInt8) (hz : (p0 :: ps).length ≤ sizeLine) (bs : Str) (t t2 t3 t4 : Tok) (r q qd z : Addr) (n1 n2 n3 : Nat) (hh : Int) (news : Led)
  (hs : ∀ p ∈ ([(r, listOf #[.str "m" t2, .ref q] n1), (q, ({ cls := .type "tuple", data := .seq #[.str bs t3, .bytes (p0 :: ps).toArray t, .str "klass" t4] n2 } : Obj))] : Led), p ∈ news) :
  Claim prog w (hd.heap_39 w.params) p loose mean mg mb 109 [.ref r] news (fun v tl => ∃ x, v = .ref x ∧ IsPR tl x (.ref r) (p0 :: ps) (.str bs) false) := by
  unfold Claim
  revert hmk
  k_fill
  intro _ dp un gd cn cs a ccd cl outer A₀ base h₀ L m s Q E B F X N T hk hd hu hret
  k_dflt (refine' call_cls ?k1 ?k2 ?k3 ?k4 ?k5 ?k6 ?_; (case k1 => k_asm); (case k2 => k_asm); (case k3 => exact N); (case k4 => k_is); (case k5 => k_is); (case k6 => k_is); k_whole; intro x1 d1 h1 F1 N1 l1 l2)
  have N0 : News h₀ L h1 ((x1, instObj 109 d1) :: (d1, dictOf [] 0) :: [(r, listOf #[.str "m" t2, .ref q] n1), (q, ({ cls := .type "tuple", data := .seq #[.str bs t3, .bytes (p0 :: ps).toArray t, .str "klass" t4] n2 } : Obj))]) := fun p hp => N1 p (by
    rcases List.mem_cons.mp hp with rfl | hp
    · exact .head _
    · rcases List.mem_cons.mp hp with rfl | hp
      · exact .tail _ (.head _)
      · exact .tail _ (.tail _ (hs p hp)))
  have l3 : ∀ p ∈ ([(r, listOf #[.str "m" t2, .ref q] n1), (q, ({ cls := .type "tuple", data := .seq #[.str bs t3, .bytes (p0 :: ps).toArray t, .str "klass" t4] n2 } : Obj))] : Led), p.1 < d1 := fun p hp => l1 p (hs p hp)
  k_lt l3
  k_lt2 l2
  k_dflt (refine' code_defG ?k1 ?k2 ?k3 N0 ?k5 ?kA ?kF ?kK ?k6 ?k7 ?k8 ?k9 ?kB ?_ ?c2 ?c3 ?c4 ?c5; (case kA => exact rfl); (case kF => exact rfl); (case kK => assumption); (case k1 => k_asm); (case k2 => k_asm); (case k3 => k_asm); (case k5 => k_asm); (case k6 => k_is); (case k7 => k_is); (case k8 => ktr_room); (case k9 => exact BindsTo.of_eq rfl); (case c5 => decide); (case kB => exact locs rfl); (case c2 => exact rfl); (case c3 => exact rfl); (case c4 => exact rfl); k_whole; intro g' L' h' FG' F' N' B' X' T' GS; (try dsimp only); (try k_lift B'); (try k_fold))
  k_steps
  rename Fr h₀ L _ _ => kF1
  rename News h₀ L _ _ => kN1
  rename Fr g' L' _ _ => F1'
  rename News g' L' _ _ => N1'
  have hfin := fin_cls (tl := [(x1, _), (d1, _)]) N1 l1 l2 hs GS F1' N1' kN1 (forall_in_cons (by ktn_open) (forall_in_cons (by ktn_open) (forall_in_nil))) (forall_in_cons (by ktn_open) (forall_in_cons (by ktn_open) forall_in_nil)) (forall_in_cons (forall_in_cons (by (try dsimp only); k_ne) (forall_in_cons (by (try dsimp only); k_ne) (forall_in_nil))) (forall_in_cons (forall_in_cons (by (try dsimp only); k_ne) (forall_in_cons (by (try dsimp only); k_ne) (forall_in_nil))) forall_in_nil))
  refine hret _ _ _ _ kF1 hfin.1 hfin.2 ?_
  clear hfin hret kF1 kN1 F1' N1'
  exact ⟨x1, rfl, d1, _, _, _, .head _, .tail _ (.head _), by k_get, by k_get, ⟨_, by k_get⟩, by (try simp only [Bool.false_eq_true, if_false, if_true]); k_get, by k_get⟩

theorem init_8 (hmk : Marks hd.heap_39 PySem.Challenge.rw_vy0039_01) {prog : Program} {w : World} {p : Program} {loose : List Str} {mean : ExcName → Option Value} {mg mb : Str → Option Value} (p0 : UInt8) (ps : List UInt8) (hc : ∀ b ∈ p0 :: ps, b.toNat < 128) (hz : (p0 :: ps).length ≤ sizeLine) (bs : Str) (t t2 t3 t4 : Tok) (r q qd z : Addr) (n1 n2 n3 : Nat) (hh : Int) (news : Led)
  (hs : ∀ p ∈ ([(r, ({ cls := .type "tuple", data := .seq #[.str (txt (p0 :: ps)) t, .none] n1 } : Obj))] : Led), p ∈ news) :
  Claim prog w (hd.heap_39 w.params) p loose mean mg mb 109 [.ref r] news (fun v tl => ∃ x, v = .ref x ∧ IsPR tl x (.ref r) (p0 :: ps) .none false) := by
  unfold Claim
  revert hmk
  k_fill
  intro _ dp un gd cn cs a ccd cl outer A₀ base h₀ L m s Q E B F X N T hk hd hu hret
  k_dflt (refine' call_cls ?k1 ?k2 ?k3 ?k4 ?k5 ?k6 ?_; (case k1 => k_asm); (case k2 => k_asm); (case k3 => exact N); (case k4 => k_is); (case k5 => k_is); (case k6 => k_is); k_whole; intro x1 d1 h1 F1 N1 l1 l2)
  have N0 : News h₀ L h1 ((x1, instObj 109 d1) :: (d1, dictOf [] 0) :: [(r, ({ cls := .type "tuple", data := .seq #[.str (txt (p0 :: ps)) t, .none] n1 } : Obj))]) := fun p hp => N1 p (by
    rcases List.mem_cons.mp hp with rfl | hp
    · exact .head _
    · rcases List.mem_cons.mp hp with rfl | hp
      · exact .tail _ (.head _)
      · exact .tail _ (.tail _ (hs p hp)))
  have l3 : ∀ p ∈ ([(r, ({ cls := .type "tuple", data := .seq #[.str (txt (p0 :: ps)) t, .none] n1 } : Obj))] : Led), p.1 < d1 := fun p hp => l1 p (hs p hp)
  k_lt l3
  k_lt2 l2
  k_dflt (refine' code_defG ?k1 ?k2 ?k3 N0 ?k5 ?kA ?kF ?kK ?k6 ?k7 ?k8 ?k9 ?kB ?_ ?c2 ?c3 ?c4 ?c5; (case kA => exact rfl); (case kF => exact rfl); (case kK => assumption); (case k1 => k_asm); (case k2 => k_asm); (case k3 => k_asm); (case k5 => k_asm); (case k6 => k_is); (case k7 => k_is); (case k8 => ktr_room); (case k9 => exact BindsTo.of_eq rfl); (case c5 => decide); (case kB => exact locs rfl); (case c2 => exact rfl); (case c3 => exact rfl); (case c4 => exact rfl); k_whole; intro g' L' h' FG' F' N' B' X' T' GS; (try dsimp only); (try k_lift B'); (try k_fold))
  k_steps
  rename Fr h₀ L _ _ => kF1
  rename News h₀ L _ _ => kN1
  rename Fr g' L' _ _ => F1'
  rename News g' L' _ _ => N1'
  have hfin := fin_cls (tl := [(x1, _), (d1, _)]) N1 l1 l2 hs GS F1' N1' kN1 (forall_in_cons (by ktn_open) (forall_in_nil)) (forall_in_cons (by ktn_open) (forall_in_cons (by ktn_open) forall_in_nil)) (forall_in_cons (forall_in_cons (by (try dsimp only); k_ne) (forall_in_nil)) (forall_in_cons (forall_in_cons (by (try dsimp only); k_ne) (forall_in_nil)) forall_in_nil))
  refine hret _ _ _ _ kF1 hfin.1 hfin.2 ?_
  clear hfin hret kF1 kN1 F1' N1'
  exact ⟨x1, rfl, d1, _, _, _, .head _, .tail _ (.head _), by k_get, by k_get, by (show getL _ _ = _); k_get, by (try simp only [Bool.false_eq_true, if_false, if_true]); k_get, by k_get⟩

theorem init_9 (hmk : Marks hd.heap_39 PySem.Challenge.rw_vy0039_01) {prog : Program} {w : World} {p : Program} {loose : List Str} {mean : ExcName → Option Value} {mg mb : Str → Option Value} (p0 : UInt8) (ps : List UInt8) (hc : ∀ b ∈ p0 :: ps, b.toNat < 128) (hz : (p0 :: ps).length ≤ sizeLine) (bs : Str) (t t2 t3 t4 : Tok) (r q qd z : Addr) (n1 n2 n3 : Nat) (hh : Int) (news : Led)
  (hs : ∀ p ∈ ([(r, listOf #[.str "w" t2, .ref q] n1), (q, ({ cls := .type "tuple", data := .seq #[.str (txt (p0 :: ps)) t] n2 } : Obj))] : Led), p ∈ news) :
  Claim prog w (hd.heap_39 w.params) p loose mean mg mb 109 [.ref r] news (fun v tl => ∃ x, v = .ref x ∧ IsPR tl x (.ref r) (p0 :: ps) .none true) := by
  unfold Claim
  revert hmk
  k_fill
  intro _ dp un gd cn cs a ccd cl outer A₀ base h₀ L m s Q E B F X N T hk hd hu hret
  k_dflt (refine' call_cls ?k1 ?k2 ?k3 ?k4 ?k5 ?k6 ?_; (case k1 => k_asm); (case k2 => k_asm); (case k3 => exact N); (case k4 => k_is); (case k5 => k_is); (case k6 => k_is); k_whole; intro x1 d1 h1 F1 N1 l1 l2)
  have N0 : News h₀ L h1 ((x1, instObj 109 d1) :: (d1, dictOf [] 0) :: [(r, listOf #[.str "w" t2, .ref q] n1), (q, ({ cls := .type "tuple", data := .seq #[.str (txt (p0 :: ps)) t] n2 } : Obj))]) := fun p hp => N1 p (by
    rcases List.mem_cons.mp hp with rfl | hp
    · exact .head _
    · rcases List.mem_cons.mp hp with rfl | hp
      · exact .tail _ (.head _)
      · exact .tail _ (.tail _ (hs p hp)))
  have l3 : ∀ p ∈ ([(r, listOf #[.str "w" t2, .ref q] n1), (q, ({ cls := .type "tuple", data := .seq #[.str (txt (p0 :: ps)) t] n2 } : Obj))] : Led), p.1 < d1 := fun p hp => l1 p (hs p hp)
  k_lt l3
  k_lt2 l2
  k_dflt (refine' code_defG ?k1 ?k2 ?k3 N0 ?k5 ?kA ?kF ?kK ?k6 ?k7 ?k8 ?k9 ?kB ?_ ?c2 ?c3 ?c4 ?c5; (case kA => exact rfl); (case kF => exact rfl); (case kK => assumption); (case k1 => k_asm); (case k2 => k_asm); (case k3 => k_asm); (case k5 => k_asm); (case k6 => k_is); (case k7 => k_is); (case k8 => ktr_room); (case k9 => exact BindsTo.of_eq rfl); (case c5 => decide); (case kB => exact locs rfl); (case c2 => exact rfl); (case c3 => exact rfl); (case c4 => exact rfl); k_whole; intro g' L' h' FG' F' N' B' X' T' GS; (try dsimp only); (try k_lift B'); (try k_fold))
  k_steps
  rename Fr h₀ L _ _ => kF1
  rename News h₀ L _ _ => kN1
  rename Fr g' L' _ _ => F1'
  rename News g' L' _ _ => N1'
  have hfin := fin_cls (tl := [(x1, _), (d1, _)]) N1 l1 l2 hs GS F1' N1' kN1 (forall_in_cons (by ktn_open) (forall_in_cons (by ktn_open) (forall_in_nil))) (forall_in_cons (by ktn_open) (forall_in_cons (by ktn_open) forall_in_nil)) (forall_in_cons (forall_in_cons (by (try dsimp only); k_ne) (forall_in_cons (by (try dsimp only); k_ne) (forall_in_nil))) (forall_in_cons (forall_in_cons (by (try dsimp only); k_ne) (forall_in_cons (by (try dsimp only); k_ne) (forall_in_nil))) forall_in_nil))
  refine hret _ _ _ _ kF1 hfin.1 hfin.2 ?_
  clear hfin hret kF1 kN1 F1' N1'
  exact ⟨x1, rfl, d1, _, _, _, .head _, .tail _ (.head _), by k_get, by k_get, by (show getL _ _ = _); k_get, by (try simp only [Bool.false_eq_true, if_false, if_true]); k_get, by k_get⟩

theorem init_10 (hmk : Marks hd.heap_39 PySem.Challenge.rw_vy0039_01) {prog : Program} {w : World} {p : Program} {loose : List Str} {mean : ExcName → Option Value} {mg mb : Str → Option Value} (p0 : UInt8) (ps : List UInt8) (hc : ∀ b ∈ p0 :: ps, b.toNat < 128) (hz : (p0 :: ps).length ≤ sizeLine) (bs : Str) (t t2 t3 t4 : Tok) (r q qd z : Addr) (n1 n2 n3 : Nat) (hh : Int) (news : Led)
  (hs : ∀ p ∈ ([(r, listOf #[.str "n" t2, .ref q] n1), (q, ({ cls := .type "tuple", data := .seq #[.str bs t3, .str (txt (p0 :: ps)) t] n2 } : Obj))] : Led), p ∈ news) :
  Claim prog w (hd.heap_39 w.params) p loose mean mg mb 109 [.ref r] news (fun v tl => ∃ x, v = .ref x ∧ IsPR tl x (.ref r) (p0 :: ps) (.str bs) false) := by
  unfold Claim
  revert hmk
  k_fill
  intro _ dp un gd cn cs a ccd cl outer A₀ base h₀ L m s Q E B F X N T hk hd hu hret
  k_dflt (refine' call_cls ?k1 ?k2 ?k3 ?k4 ?k5 ?k6 ?_; (case k1 => k_asm); (case k2 => k_asm); (case k3 => exact N); (case k4 => k_is); (case k5 => k_is); (case k6 => k_is); k_whole; intro x1 d1 h1 F1 N1 l1 l2)
  have N0 : News h₀ L h1 ((x1, instObj 109 d1) :: (d1, dictOf [] 0) :: [(r, listOf #[.str "n" t2, .ref q] n1), (q, ({ cls := .type "tuple", data := .seq #[.str bs t3, .str (txt (p0 :: ps)) t] n2 } : Obj))]) := fun p hp => N1 p (by
    rcases List.mem_cons.mp hp with rfl | hp
    · exact .head _
    · rcases List.mem_cons.mp hp with rfl | hp
      · exact .tail _ (.head _)
      · exact .tail _ (.tail _ (hs p hp)))
  have l3 : ∀ p ∈ ([(r, listOf #[.str "n" t2, .ref q] n1), (q, ({ cls := .type "tuple", data := .seq #[.str bs t3, .str (txt (p0 :: ps)) t] n2 } : Obj))] : Led), p.1 < d1 := fun p hp => l1 p (hs p hp)
  k_lt l3
  k_lt2 l2
  k_dflt (refine' code_defG ?k1 ?k2 ?k3 N0 ?k5 ?kA ?kF ?kK ?k6 ?k7 ?k8 ?k9 ?kB ?_ ?c2 ?c3 ?c4 ?c5; (case kA => exact rfl); (case kF => exact rfl); (case kK => assumption); (case k1 => k_asm); (case k2 => k_asm); (case k3 => k_asm); (case k5 => k_asm); (case k6 => k_is); (case k7 => k_is); (case k8 => ktr_room); (case k9 => exact BindsTo.of_eq rfl); (case c5 => decide); (case kB => exact locs rfl); (case c2 => exact rfl); (case c3 => exact rfl); (case c4 => exact rfl); k_whole; intro g' L' h' FG' F' N' B' X' T' GS; (try dsimp only); (try k_lift B'); (try k_fold))
  k_steps
  rename Fr h₀ L _ _ => kF1
  rename News h₀ L _ _ => kN1
  rename Fr g' L' _ _ => F1'
  rename News g' L' _ _ => N1'
  have hfin := fin_cls (tl := [(x1, _), (d1, _)]) N1 l1 l2 hs GS F1' N1' kN1 (forall_in_cons (by ktn_open) (forall_in_cons (by ktn_open) (forall_in_nil))) (forall_in_cons (by ktn_open) (forall_in_cons (by ktn_open) forall_in_nil)) (forall_in_cons (forall_in_cons (by (try dsimp only); k_ne) (forall_in_cons (by (try dsimp only); k_ne) (forall_in_nil))) (forall_in_cons (forall_in_cons (by (try dsimp only); k_ne) (forall_in_cons (by (try dsimp only); k_ne) (forall_in_nil))) forall_in_nil))
  refine hret _ _ _ _ kF1 hfin.1 hfin.2 ?_
  clear hfin hret kF1 kN1 F1' N1'
  exact ⟨x1, rfl, d1, _, _, _, .head _, .tail _ (.head _), by k_get, by k_get, ⟨_, by k_get⟩, by (try simp only [Bool.false_eq_true, if_false, if_true]); k_get, by k_get⟩

theorem init_11 (hmk : Marks hd.heap_39 PySem.Challenge.rw_vy0039_01) {prog : Program} {w : World} {p : Program} {loose : List Str} {mean : ExcName → Option Value} {mg mb : Str → Option Value} (p0 : UInt8) (ps : List UInt8) (hc : ∀ b ∈ p0 :: ps, b.toNat < 128) (hz : (p0 :: ps).length ≤ sizeLine) (bs : Str) (t t2 t3 t4 : Tok) (r q qd z : Addr) (n1 n2 n3 : Nat) (hh : Int) (news : Led)
  (hs : ∀ p ∈ ([(r, listOf #[.str "m" t2, .ref q] n1), (q, ({ cls := .type "tuple", data := .seq #[.str bs t3, .str (txt (p0 :: ps)) t, .none] n2 } : Obj))] : Led), p ∈ news) :
  Claim prog w (hd.heap_39 w.params) p loose mean mg mb 109 [.ref r] news (fun v tl => ∃ x, v = .ref x ∧ IsPR tl x (.ref r) (p0 :: ps) (.str bs) false) := by
  unfold Claim
  revert hmk
  k_fill
  intro _ dp un gd cn cs a ccd cl outer A₀ base h₀ L m s Q E B F X N T hk hd hu hret
  k_dflt (refine' call_cls ?k1 ?k2 ?k3 ?k4 ?k5 ?k6 ?_; (case k1 => k_asm); (case k2 => k_asm); (case k3 => exact N); (case k4 => k_is); (case k5 => k_is); (case k6 => k_is); k_whole; intro x1 d1 h1 F1 N1 l1 l2)
  have N0 : News h₀ L h1 ((x1, instObj 109 d1) :: (d1, dictOf [] 0) :: [(r, listOf #[.str "m" t2, .ref q] n1), (q, ({ cls := .type "tuple", data := .seq #[.str bs t3, .str (txt (p0 :: ps)) t, .none] n2 } : Obj))]) := fun p hp => N1 p (by
    rcases List.mem_cons.mp hp with rfl | hp
    · exact .head _
    · rcases List.mem_cons.mp hp with rfl | hp
      · exact .tail _ (.head _)
      · exact .tail _ (.tail _ (hs p hp)))
  have l3 : ∀ p ∈ ([(r, listOf #[.str "m" t2, .ref q] n1), (q, ({ cls := .type "tuple", data := .seq #[.str bs t3, .str (txt (p0 :: ps)) t, .none] n2 } : Obj))] : Led), p.1 < d1 := fun p hp => l1 p (hs p hp)
  k_lt l3
  k_lt2 l2
  k_dflt (refine' code_defG ?k1 ?k2 ?k3 N0 ?k5 ?kA ?kF ?kK ?k6 ?k7 ?k8 ?k9 ?kB ?_ ?c2 ?c3 ?c4 ?c5; (case kA => exact rfl); (case kF => exact rfl); (case kK => assumption); (case k1 => k_asm); (case k2 => k_asm); (case k3 => k_asm); (case k5 => k_asm); (case k6 => k_is); (case k7 => k_is); (case k8 => ktr_room); (case k9 => exact BindsTo.of_eq rfl); (case c5 => decide); (case kB => exact locs rfl); (case c2 => exact rfl); (case c3 => exact rfl); (case c4 => exact rfl); k_whole; intro g' L' h' FG' F' N' B' X' T' GS; (try dsimp only); (try k_lift B'); (try k_fold))
  k_steps
  rename Fr h₀ L _ _ => kF1
  rename News h₀ L _ _ => kN1
  rename Fr g' L' _ _ => F1'
  rename News g' L' _ _ => N1'
  have hfin := fin_cls (tl := [(x1, _), (d1, _)]) N1 l1 l2 hs GS F1' N1' kN1 (forall_in_cons (by ktn_open) (forall_in_cons (by ktn_open) (forall_in_nil))) (forall_in_cons (by ktn_open) (forall_in_cons (by ktn_open) forall_in_nil)) (forall_in_cons (forall_in_cons (by (try dsimp only); k_ne) (forall_in_cons (by (try dsimp only); k_ne) (forall_in_nil))) (forall_in_cons (forall_in_cons (by (try dsimp only); k_ne) (forall_in_cons (by (try dsimp only); k_ne) (forall_in_nil))) forall_in_nil))
  refine hret _ _ _ _ kF1 hfin.1 hfin.2 ?_
  clear hfin hret kF1 kN1 F1' N1'
  exact ⟨x1, rfl, d1, _, _, _, .head _, .tail _ (.head _), by k_get, by k_get, ⟨_, by k_get⟩, by (try simp only [Bool.false_eq_true, if_false, if_true]); k_get, by k_get⟩

theorem init_12 (hmk : Marks hd.heap_39 PySem.Challenge.rw_vy0039_01) {prog : Program} {w : World} {p : Program} {loose : List Str} {mean : ExcName → Option Value} {mg mb : Str → Option Value} (p0 : UInt8) (ps : List UInt8) (hz : (p0 :: ps).length ≤ sizeLine) (bs : Str) (t t2 t3 t4 : Tok) (r q qd z : Addr) (n1 n2 n3 : Nat) (hh : Int) (news : Led)
  (hs : ∀ p ∈ ([(r, ({ cls := .type "tuple", data := .seq #[.bytes (p0 :: ps).toArray t, .ref q] n1 } : Obj)), (q, instObj 31 qd), (qd, dictOf [⟨hh, .str "args" t2, .ref z⟩] n2), (z, ({ cls := .type "tuple", data := .seq #[.str "shop" t3, .str bs t4] n3 } : Obj))] : Led), p ∈ news) :
  Claim prog w (hd.heap_39 w.params) p loose mean mg mb 109 [.ref r] news (fun v tl => ∃ x u n4, v = .ref x ∧ IsPR tl x (.ref u) (p0 :: ps) .none false ∧ (u, ({ cls := .type "tuple", data := .seq #[.bytes (p0 :: ps).toArray t, .ref z] n4 } : Obj)) ∈ tl) := by
  unfold Claim
  revert hmk
  k_fill
  intro _ dp un gd cn cs a ccd cl outer A₀ base h₀ L m s Q E B F X N T hk hd hu hret
  k_dflt (refine' call_cls ?k1 ?k2 ?k3 ?k4 ?k5 ?k6 ?_; (case k1 => k_asm); (case k2 => k_asm); (case k3 => exact N); (case k4 => k_is); (case k5 => k_is); (case k6 => k_is); k_whole; intro x1 d1 h1 F1 N1 l1 l2)
  have N0 : News h₀ L h1 ((x1, instObj 109 d1) :: (d1, dictOf [] 0) :: [(r, ({ cls := .type "tuple", data := .seq #[.bytes (p0 :: ps).toArray t, .ref q] n1 } : Obj)), (q, instObj 31 qd), (qd, dictOf [⟨hh, .str "args" t2, .ref z⟩] n2), (z, ({ cls := .type "tuple", data := .seq #[.str "shop" t3, .str bs t4] n3 } : Obj))]) := fun p hp => N1 p (by
    rcases List.mem_cons.mp hp with rfl | hp
    · exact .head _
    · rcases List.mem_cons.mp hp with rfl | hp
      · exact .tail _ (.head _)
      · exact .tail _ (.tail _ (hs p hp)))
  have l3 : ∀ p ∈ ([(r, ({ cls := .type "tuple", data := .seq #[.bytes (p0 :: ps).toArray t, .ref q] n1 } : Obj)), (q, instObj 31 qd), (qd, dictOf [⟨hh, .str "args" t2, .ref z⟩] n2), (z, ({ cls := .type "tuple", data := .seq #[.str "shop" t3, .str bs t4] n3 } : Obj))] : Led), p.1 < d1 := fun p hp => l1 p (hs p hp)
  k_lt l3
  k_lt2 l2
  k_dflt (refine' code_defG ?k1 ?k2 ?k3 N0 ?k5 ?kA ?kF ?kK ?k6 ?k7 ?k8 ?k9 ?kB ?_ ?c2 ?c3 ?c4 ?c5; (case kA => exact rfl); (case kF => exact rfl); (case kK => assumption); (case k1 => k_asm); (case k2 => k_asm); (case k3 => k_asm); (case k5 => k_asm); (case k6 => k_is); (case k7 => k_is); (case k8 => ktr_room); (case k9 => exact BindsTo.of_eq rfl); (case c5 => decide); (case kB => exact locs rfl); (case c2 => exact rfl); (case c3 => exact rfl); (case c4 => exact rfl); k_whole; intro g' L' h' FG' F' N' B' X' T' GS; (try dsimp only); (try k_lift B'); (try k_fold))
  k_steps
  rename Fr h₀ L _ _ => kF1
  rename News h₀ L _ _ => kN1
  rename Fr g' L' _ _ => F1'
  rename News g' L' _ _ => N1'
  have hfin := fin_cls (tl := [(x1, _), (d1, _), (_, _)]) N1 l1 l2 hs GS F1' N1' kN1 (forall_in_cons (by ktn_open) (forall_in_cons (by ktn_open) (forall_in_cons (by ktn_open) (forall_in_cons (by ktn_open) (forall_in_nil))))) (forall_in_cons (by ktn_open) (forall_in_cons (by ktn_open) (forall_in_cons (List.Mem.head _) forall_in_nil))) (forall_in_cons (forall_in_cons (by (try dsimp only); k_ne) (forall_in_cons (by (try dsimp only); k_ne) (forall_in_cons (by (try dsimp only); k_ne) (forall_in_cons (by (try dsimp only); k_ne) (forall_in_nil))))) (forall_in_cons (forall_in_cons (by (try dsimp only); k_ne) (forall_in_cons (by (try dsimp only); k_ne) (forall_in_cons (by (try dsimp only); k_ne) (forall_in_cons (by (try dsimp only); k_ne) (forall_in_nil))))) (forall_in_cons (forall_in_cons (by (try dsimp only); k_ne) (forall_in_cons (by (try dsimp only); k_ne) (forall_in_cons (by (try dsimp only); k_ne) (forall_in_cons (by (try dsimp only); k_ne) (forall_in_nil))))) forall_in_nil)))
  refine hret _ _ _ _ kF1 hfin.1 hfin.2 ?_
  clear hfin hret kF1 kN1 F1' N1'
  exact ⟨x1, _, _, rfl, ⟨d1, _, _, _, .head _, .tail _ (.head _), by k_get, by k_get, by (show getL _ _ = _); k_get, by (try simp only [Bool.false_eq_true, if_false, if_true]); k_get, by k_get⟩, .tail _ (.tail _ (.head _))⟩
end Mine
end
section
open PySem PySem.W PySem.Spec PySem.Calls PyProof.Rows
namespace Mine
set_option maxRecDepth 100000
section
variable {M : Model} {A : Around} {E : Value → Shared → Prop} {s : Shared}
/-- the fields of a caught exception that never had a context -/
def ExcAt (h : Heap) (e : Addr) (X : String) (oe : Obj) (tp : Value) (T : Addr) : Prop := h.get? e = some oe ∧ oe.cls = .type X ∧ oe.data = .fields #[tp, .ref T, .none, .none, .bool false, .none]
theorem note_new {B h : Heap} {env : Env} {outer : List Env} {L e : Addr} {X : String} {Q : Unit → Shared → Prop}
    (hfr : A.frames = some (env :: outer)) (hl : s.heap.FunFrames B (env :: outer)) (hf : env.frame = some L) (hx : Heap.NewExc h s.heap e X) (hkb : B.StaysIn s.heap) (hen : B.get? e = none)
    (k : ∀ h' oe tp T oT ts, B.StaysIn h' → h'.FunFrames B (env :: outer) → ExcAt h' e X oe tp T → B.get? T = none → T ≠ e → h'.get? T = some oT → oT.data = .fields ts → ts[3]? = some (rawInt L) → s.heap.UpToSlots h' → T ∉ (env :: outer).filterMap (·.frame) → Q () { s with heap := h' }) :
    wpAny M A (noteFrame (.ref e) env) Q E s := by
  obtain ⟨oe, tp, he, hcls, hd⟩ := hx.there
  have hene : e ∉ (env :: outer).filterMap (·.frame) := fun hm => by
    obtain ⟨_, o, ho, hnf⟩ := hl.mem hm
    rw [he] at ho; injection ho with ho; subst ho; exact hnf _ hd
  unfold noteFrame
  simp only [hf]
  refine wpAny_bind (wpAny_field he hd (x := .none) rfl ?_)
  rw [if_neg (by decide)]
  refine wpAny_bind (wpAny_frameOf_fun hfr hl hf fun h₁ hs₁ => ?_)
  refine wpAny_bind (wpAny_entryPlaceOf fun pl hpl => ?_)
  unfold EntryCells.newEntry newFields
  refine wpAny_bind (wpAny_newObj_type ?_ (hpl.sizeOk5 _ _ _ _ _))
  have he₁ : h₁.get? e = some oe := (hs₁.2.1 e hene).trans he
  have kb₁ : B.StaysIn h₁ := fun b o hbo => (hs₁.2.1 b fun hm => by rw [(hl.mem hm).1] at hbo; cases hbo).trans (hkb b o hbo)
  have hTe : h₁.objs.size ≠ e := Nat.ne_of_gt (Heap.lt_size he₁)
  let oT : Obj := { cls := .type "traceback", dict := none, data := .fields ([Value.none, .ref L, .none, rawInt L, .none] ++ (if pl.isEmpty then List.replicate 6 Value.none else pl)).toArray }
  have he₂ : (h₁.push oT).get? e = some oe := Heap.get?_push_of_some _ he₁
  refine wpAny_setField he₂ hd (by show 1 < 6; decide) ?_
  have hd₃ := Obj.data_mapFields hd (·.setIfInBounds 1 (Value.ref h₁.objs.size))
  have he₃ := Heap.get?_update_self (Obj.mapFields (·.setIfInBounds 1 (Value.ref h₁.objs.size))) he₂ (Obj.isFreed_of_fields hd₃)
  have hT₃ := (Heap.get?_update_other (h₁.push oT) (Obj.mapFields (·.setIfInBounds 1 (Value.ref h₁.objs.size))) (Ne.symm hTe)).trans (Heap.get?_push_size h₁ rfl)
  have keep : ∀ b o, b ≠ e → h₁.get? b = some o → ((h₁.push oT).update e (Obj.mapFields (·.setIfInBounds 1 (Value.ref h₁.objs.size)))).get? b = some o := fun b o hbe hb => by
    rw [Heap.get?_update_other _ _ (Ne.symm hbe)]
    exact Heap.get?_push_of_some _ hb
  have noRecord : ∀ b o, s.heap.get? b = some o → (∀ vs, o.data ≠ .fields vs) → b ≠ e := fun b o hb hnf q => by
    rw [q, he] at hb; injection hb with hb; subst hb; exact hnf _ hd
  refine k _ _ tp h₁.objs.size oT _ (fun b o hbo => keep b o (fun q => by rw [q, hen] at hbo; cases hbo) (kb₁ b o hbo)) (hl.of_keeps fun b o hb hnf => ?_) ⟨he₃, (Obj.cls_mapFields _ _).trans hcls, hd₃⟩ kb₁.fresh hTe hT₃ rfl
    (by first | (simp; done) | (rcases hpl with rfl | ⟨_, _, _, _, _, _, _, rfl⟩ <;> simp)) (fun b o hb hnf => ?_) (fun hm => ?_)
  · obtain ⟨sl, hs⟩ := hs₁.2.2 b o hb
    exact ⟨_, keep b _ (noRecord b o hb hnf) hs, rfl⟩
  · obtain ⟨sl, hs⟩ := hs₁.2.2 b o hb
    exact ⟨sl, keep b _ (noRecord b o hb hnf) hs⟩
  · obtain ⟨_, o, ho, _⟩ := hl.mem hm
    obtain ⟨sl, hs⟩ := hs₁.2.2 _ _ ho
    exact absurd (Heap.lt_size hs) (Nat.lt_irrefl _)
end
section
variable {prog : Program} {w : World} {A₀ : Around} {E : Value → Shared → Prop} {s' : Shared} {base g h : Heap} {outer : List Env} {L a e : Addr} {m : Str → Option Value} {name : Str} {scope : Scope} {cd : Value}
  {b₀ : Stmt} {suite : List Stmt} {pos np : Pos} {rest : List ExceptHandler} {Q : Flow → Shared → Prop} {news : List (Addr × Obj)} {KF : Frag}
  {p : Program} {loose : List Str} {mean : ExcName → Option Value} {mg mb : Str → Option Value} {x : Str} {X T' : String}
/-- an exception that the frame itself raises is caught by its own clause; what it is stays known -/
theorem caught_new (hx₀ : Heap.NewExc h s'.heap e X) (F : Fr g L h m) (N : News g L h news) (K : Below A₀ base outer g) (XB : KF.In base) (TB : Top p loose mean mg mb base)
    (D : KtsDicts (outer.filterMap (·.frame)) g)
    (ex : nsIn KF mainGlobals x = some none) (hv : bootBuiltins x = some (.type T')) (hn' : x ≠ "__name__")
    (hexc : isSubtype (.type T') (.type "BaseException") = pure true) (hnt : isSubtype (.type ((Manifest.find? T').elim "type" fun y => y.metatype)) (.type "tuple") = pure false) (hsub : isSubtype (.type X) (.type T') = pure true)
    (k : ∀ h' g' oe tp T, KtsTurn (outer.filterMap (·.frame)) g g' → Fr g' L h' m → oe.cls = .type X → oe.data = .fields #[tp, .ref T, .none, .none, .bool false, .none] → News g' L h' ((e, oe) :: news) → Below A₀ base outer g' → KF.In g' → Top p loose mean mg mb g' → KtsDicts (outer.filterMap (·.frame)) g' →
      wpAny (model prog w) ((A₀.deeper (envOf name scope L a cd)).mark (some (.ref e))) (execs (b₀ :: suite) (envOf name scope L a cd)) Q E { s' with heap := h' })
    (hk : scope.kind = .function := by rfl) (hx : (envOf name scope L a cd).kindOf x = some .globalImplicit := by rfl) (hd : (x == ("__debug__" : Str)) = false := by decide)
    (hE : PassesOwnAt (model prog w) ((A₀.deeper (envOf name scope L a cd)).mark (some (.ref e))) (A₀.deeper (envOf name scope L a cd)) (envOf name scope L a cd) E := by passes_own) :
    wpAny (model prog w) (A₀.deeper (envOf name scope L a cd)) (noteFrame (.ref e) (envOf name scope L a cd))
      (fun _ s₂ => wpAny (model prog w) (A₀.deeper (envOf name scope L a cd)) (setFlight (.ref e) none) (fun _ s₃ =>
        wpAny (model prog w) (A₀.deeper (envOf name scope L a cd)) (handleBy (.ref e) (envOf name scope L a cd) (.ExceptHandler (some (.Name x np)) none (b₀ :: suite) pos :: rest)) Q E s₃) E s₂) E s' := by
  have hf : (envOf name scope L a cd).frame = some L := rfl
  generalize henv : envOf name scope L a cd = env at *
  obtain ⟨K', st, sg, hl⟩ := tu_hide (env := env) K F N hf (by rw [← henv]; exact hk)
  have hin : ∀ env' ∈ (env :: outer), ∀ b, env'.frame = some b → b ∈ (env :: outer).filterMap (·.frame) := fun env' he b hb => List.mem_filterMap.mpr ⟨env', he, hb⟩
  have hLm : L ∈ (env :: outer).filterMap (·.frame) := hin env (.head _) L hf
  have hen : (hideAll h ((env :: outer).filterMap (·.frame))).get? e = none := by
    cases q : (hideAll h ((env :: outer).filterMap (·.frame))).get? e with
    | none => rfl
    | some o => have := of_hideAll _ q; rw [hx₀.new] at this; cases this
  refine note_new (B := hideAll h ((env :: outer).filterMap (·.frame))) K'.stack ((funFrames_hide K'.frames hin).of_keeps fun b o hb _ => ⟨o, hx₀.keeps b o hb, rfl⟩) hf hx₀ (fun b o hb => hx₀.keeps b o (of_hideAll _ hb)) hen fun h₄ oe tp T oT ts k1 k2 k3 kT kTe k4 k5 k6 k7 kTf => ?_
  obtain ⟨he₄, hec, hed⟩ := k3
  -- a second ground, with the exception in it
  have hB₂ : ∀ b o, h₄.get? b = some o → b ∉ T :: (env :: outer).filterMap (·.frame) → (hideAll h₄ (T :: (env :: outer).filterMap (·.frame))).get? b = some o := fun b o q n => hideAll_get _ q n
  have off : ∀ b o, (hideAll h ((env :: outer).filterMap (·.frame))).get? b = some o → (hideAll h₄ (T :: (env :: outer).filterMap (·.frame))).get? b = some o := fun b o q => hB₂ b o (k1 b o q) fun hm => by
    rcases List.mem_cons.mp hm with z | z
    · rw [z, kT] at q; cases q
    · rw [hideAll_none _ z] at q; cases q
  have ne : e ∉ T :: (env :: outer).filterMap (·.frame) := fun hm => by
    rcases List.mem_cons.mp hm with z | z
    · exact kTe z.symm
    · obtain ⟨_, o, ho, _⟩ := K'.frames.mem z
      rw [hx₀.new] at ho; cases ho
  have fr₂ : h₄.FunFrames (hideAll h₄ (T :: (env :: outer).filterMap (·.frame))) (env :: outer) := by
    refine funFrames_hide (base := hideAll h ((env :: outer).filterMap (·.frame))) k2 fun env' he b hb => ?_
    exact List.mem_cons_of_mem _ (hin env' he b hb)
  have tr : h₄.TracedAtW (hideAll h₄ (T :: (env :: outer).filterMap (·.frame))) e (.type X) tp (rawInt L) := ⟨oe, _, T, oT, ts, he₄, ⟨hec, rfl⟩, hed, rfl, hideAll_none _ (.head _), kTe, k4, k5, k6⟩
  have sm₄ : h.UpToSlots h₄ := (Heap.UpToSlots.of_keeps hx₀.keeps).trans k7
  have hBG : ∀ b o, (hideAll h (news.map (·.1))).get? b = some o → b ∉ (env :: outer).filterMap (·.frame) → (hideAll h₄ (T :: (env :: outer).filterMap (·.frame))).get? b = some o := fun b o q n => off b o (hideAll_get _ (of_hideAll _ q) n)
  have FG := tu_Fr F N
  refine wpAny_setFlight_noneW (s := { s' with heap := h₄ }) (fun b o q => of_hideAll _ q) fr₂ tr fun h₅ a1 a2 a3 a4 => ?_
  have sm₅ : (hideAll h (news.map (·.1))).UpToSlots h₅ := fun b o q n => by
    obtain ⟨sl, hs⟩ := sm₄ b o (of_hideAll _ q) n
    exact ⟨sl, a4 _ _ hs n⟩
  obtain ⟨g₅, T₅, F₅, K₅⟩ := groundT (env := env) K FG hf hBG a1 sm₅
  subst henv
  have X₅ : KF.In g₅ := XB.keeps K₅.stays
  have P₅ : TopRead p loose mg mb g₅ := topRead_of (TB.keeps K₅.stays)
  refine wpAny_handleBy_builtin (X := X) (T := T') (b := true) hexc hnt hsub (name_B F₅ X₅ P₅ ex hv hn' ⟨rfl, ⟨oe, a1 _ _ (hB₂ _ _ he₄ ne), hec⟩, ?_⟩ hk hx hd)
  refine wpAny_setFlight_noneW (s := { s' with heap := h₅ }) a1 a2 a3.at fun h₆ b1 b2 b3 b4 => ?_
  have sm₆ : (hideAll h (news.map (·.1))).UpToSlots h₆ := fun b o q n => by
    obtain ⟨sl, hs⟩ := sm₅ b o q n
    exact ⟨sl, b4 _ _ hs n⟩
  obtain ⟨g₆, T₆, F₆, K₆⟩ := groundT (env := envOf name scope L a cd) K FG hf hBG b1 sm₆
  have Nl : News g₆ L h₆ news := fun q hq => ⟨b1 _ _ (off _ _ (hl q hq).1), (N q hq).2.1, T₆.none_ _ (N q hq).2.2⟩
  have Ne : News g₆ L h₆ ((e, oe) :: news) := News.more F₆ Nl (b1 _ _ (hB₂ _ _ he₄ ne)) (fun es n q => by rw [hed] at q; cases q) (T₆.none_ _ (kts_none F.keep hx₀.new))
  exact wpAny_passesOwnAt hE (k h₆ g₆ oe tp T T₆ F₆ hec hed Ne K₆ (XB.keeps K₆.stays) (TB.keeps K₆.stays) (D.turn T₆))
end
end Mine
end
section
open PySem PySem.W PySem.Spec PySem.Calls PyProof.Rows
namespace Mine
set_option maxRecDepth 100000
section
variable {prog : Program} {w : World} {A : Around} {E : Value → Shared → Prop} {s : Shared}
theorem entry_unchain : entryFor table "proto.unchain" = some Builtin.«proto.unchain» := entryFor_of_tree (by kernel_rfl)
theorem unchain_ok {v c : Value} {ca : Addr} {oc : Obj} {cv : Array Value} {Q : Value → Shared → Prop} (hc : c = .ref ca) (hoc : s.heap.get? ca = some oc) (hcd : oc.data = .fields cv) (hc2 : cv[2]? = some .none) (h : Q .none s) :
    wpAny (model prog w) A (runValue (.builtin "proto.unchain" ⟨[v, c, c, .bool false], []⟩)) Q E s := by
  subst hc
  refine wpAny_runValue (codeAny_builtin entry_unchain ?_)
  unfold Builtin.«proto.unchain»
  show wpAny _ _ (field (.ref ca) 2 >>= _) _ _ s
  refine wpAny_bind (wpAny_field hoc hcd (x := .none) hc2 ?_)
  rw [if_pos (by decide)]
  exact wpAny_pure h
/-- a tuple's iterator at its end, while an exception is being handled -/
theorem next_tuple_end_h {it t c : Addr} {i : Nat} {items} {oc : Obj} {cv : Array Value} {Q : Option Value → Shared → Prop} (hh : A.handled = some (.ref c))
    (hoc : s.heap.get? c = some oc) (hcd : oc.data = .fields cv) (hc2 : cv[2]? = some .none) (hci : c ≠ it)
    (hit : IsTupIter s.heap it t i) (ht : IsTup s.heap t items) (hx : items[i]? = none)
    (hQ : ∀ h', Heap.ExtBut it s.heap h' → Q none { s with heap := h' }) : wpAny (model prog w) A (pyNext (.ref it)) Q E s := by
  obtain ⟨o, ho, hcl, hd⟩ := id hit
  obtain ⟨ol, hol, _, nl, hdl⟩ := ht
  unfold pyNext
  refine wpAny_bind (wpAny_attempt (wpAny_callSpecial?_slot (name := Str.ofString "__next__") hit.typeIs slot_tupleiter_next
    (wpAny_call_entry slot_tupleiter_next hit.typeIs entry_tupleiter_next ?_ (args_tupleiter_next _))))
  show wpAny _ _ (field (.ref it) 0 >>= _) _ _ s
  refine wpAny_bind (wpAny_field ho hd (x := .ref t) rfl ?_)
  show wpAny _ _ (if (Value.ref t == Value.none) = true then _ else _) _ _ s
  rw [if_neg (show ¬ ((Value.ref t == Value.none) = true) from Bool.false_ne_true)]
  show wpAny _ _ (field (.ref it) 1 >>= _) _ _ s
  refine wpAny_bind (wpAny_field ho hd (x := .int i 0) rfl ?_)
  show wpAny _ _ (seqItems? (.ref t) >>= _) _ _ s
  refine wpAny_bind (wpAny_seqItems hol hdl ?_)
  simp only [Int.toNat_natCast, hx]
  refine wpAny_bind (wpAny_rule (wpAny_bind (wpAny_setField ho hd (by simp) ?_)))
  show wpAny _ _ (newExc (.type "StopIteration") [] >>= _) _ _ _
  refine wpAny_bind ?_
  simp only [newExc, newTuple]
  refine wpAny_bind (wpAny_newObj_type ?_ (by size_fits))
  refine wpAny_bind (m := firstArgMember _ _) (wpAny_of_eq (a := Value.none) (by first | rfl | (simp only [firstArgMember]; rfl)) ?_)
  refine wpAny_newObj_type ?_ (by size_fits)
  simp only [raiseNew]
  have hcs : c < s.heap.objs.size := Heap.lt_size hoc
  refine wpAny_bind (wpAny_handled ?_)
  first | rw [show A.in1.handled = some (Value.ref c) from hh] | rw [hh]
  have hne : ∀ n : Nat, (Value.ref c != Value.ref (s.heap.objs.size + n)) = true := fun n => by
    have : c ≠ s.heap.objs.size + n := Nat.ne_of_lt (Nat.lt_of_lt_of_le hcs (Nat.le_add_right _ _))
    simpa using this
  have hup : (s.heap.update it (Obj.mapFields (·.setIfInBounds 0 Value.none))).get? c = some oc := (Heap.get?_update_other _ _ (Ne.symm hci)).trans hoc
  generalize hH : (s.heap.update it (Obj.mapFields (·.setIfInBounds 0 Value.none))).push { cls := .type "tuple", data := .seq #[] } = H
  have hHs : H.objs.size = s.heap.objs.size + 1 := by rw [← hH]; simp [Heap.push, Heap.size_after_update]
  have hHc : H.get? c = some oc := by rw [← hH]; exact Heap.get?_push_of_some _ hup
  have hH0 : ∀ b o, b ≠ it → s.heap.get? b = some o → H.get? b = some o := fun b o n q => by
    rw [← hH]; exact Heap.get?_push_of_some _ ((Heap.get?_update_other _ _ (Ne.symm n)).trans q)
  generalize hfv : ((#[Value.ref (s.heap.update it (Obj.mapFields (·.setIfInBounds 0 Value.none))).objs.size, Value.none, Value.none, Value.none, Value.bool false, Value.none] : Array Value) ++ ownMembersOf (Value.type "StopIteration") []) = fv
  have hfs : 2 < fv.size := by rw [← hfv]; simp; omega
  have hcH : c < H.objs.size := Heap.lt_size hHc
  have hne' : (Value.ref c != Value.ref H.objs.size) = true := by
    have : c ≠ H.objs.size := Nat.ne_of_lt hcH
    simpa using this
  show wpAny _ _ (if (Value.ref c != Value.ref H.objs.size) = true then _ else _) _ _ _
  rw [if_pos hne']
  have hx1 := Heap.get?_push_size H (o := { cls := .type "StopIteration", data := .fields fv }) rfl
  refine wpAny_bind (wpAny_holding (unchain_ok rfl (Heap.get?_push_of_some _ hHc) hcd hc2 ?_))
  show wpAny _ _ (setField (.ref H.objs.size) 2 (.ref c) >>= _) _ _ _
  refine wpAny_bind (wpAny_setField hx1 rfl hfs ?_)
  refine wpAny_throw ?_
  have hfin := Heap.get?_update_self (Obj.mapFields (·.setIfInBounds 2 (Value.ref c))) hx1 rfl
  refine wpAny_bind (wpAny_isInstance (T := "StopIteration") (b := true) ⟨_, hfin, (Obj.cls_mapFields _ _)⟩ isSubtype_stop ?_)
  refine wpAny_pure (hQ _ fun b o n q => ?_)
  have q1 := Heap.get?_push_of_some (h := H) { cls := .type "StopIteration", data := .fields fv } (hH0 b o n q)
  have hb : b ≠ H.objs.size := Nat.ne_of_lt (Heap.lt_size (hH0 b o n q))
  exact (Heap.get?_update_other _ _ (Ne.symm hb)).trans q1
/-- two items for two targets, while an exception is being handled -/
theorem unpack_h {t c : Addr} {items : Array Value} {targets : List (Bool × (Value → Sem Unit))} {oc : Obj} {cv : Array Value} {Q : Unit → Shared → Prop} (hh : A.handled = some (.ref c))
    (hoc : s.heap.get? c = some oc) (hcd : oc.data = .fields cv) (hc2 : cv[2]? = some .none) (ht : IsTup s.heap t items)
    (hn : targets.length = items.size) (hstar : targets.findIdx? (·.1) = none)
    (h : ∀ h', Heap.ExtBut s.heap.objs.size s.heap h' → wpAny (model prog w) A (assignInOrder (targets.map (·.2)) items.toList) Q E { s with heap := h' }) :
    wpAny (model prog w) A (unpack (.ref t) targets) Q E s := by
  have hlt : t ≠ s.heap.objs.size := by obtain ⟨o, ho, _⟩ := ht; exact Nat.ne_of_lt (Heap.lt_size ho)
  have hct : c ≠ s.heap.objs.size := Nat.ne_of_lt (Heap.lt_size hoc)
  unfold unpack
  rw [hn, hstar]
  refine wpAny_bind (wpAny_holding ?_)
  unfold unpackItems
  refine wpAny_bind ?_
  unfold notIterableAtAll
  refine wpAny_bind (wpAny_specialOf ht.typeIs slot_tuple_iter.lookup ?_)
  refine wpAny_pure ?_
  simp only [Bool.false_eq_true, if_false]
  refine wpAny_bind (wpAny_holding (iter_tuple ht ?_))
  refine wpAny_bind (wpAny_holding (draw_tuple hlt items.size 0 _ _ ⟨_, Heap.get?_push_size _ rfl, rfl, rfl⟩ (ht.push _) (by omega) fun h₁ hit₁ hs₁ => ?_))
  have hall : List.take items.size (List.drop 0 items.toList) = items.toList := by
    rw [List.drop_zero]; exact List.take_of_length_le (by simp)
  rw [hall]
  rw [if_neg (by simp)]
  have ht₁ : IsTup h₁ t items := (ht.push _).extBut hs₁.extBut hlt
  refine wpAny_bind (wpAny_holding (next_tuple_end_h hh (hs₁.extBut _ _ hct (Heap.get?_push_of_some _ hoc)) hcd hc2 hct hit₁ ht₁ (by simp) fun h₂ he₂ => ?_))
  simp only [Option.isSome_none, Bool.false_eq_true, if_false]
  refine wpAny_pure (h h₂ fun b o hb e => he₂ b o hb (hs₁.extBut b o hb (Heap.get?_push_of_some _ e)))
theorem assign_h {env : Env} {elts : List Expr} {x1} {pos : Pos} {t c : Addr} {items : Array Value} {oc : Obj} {cv : Array Value} {news : Led} {g : Heap} {L : Addr} {m : Str → Option Value} {Q : Unit → Shared → Prop} (F : Fr g L s.heap m) (N : News g L s.heap news)
    (hh : A.handled = some (.ref c)) (hoc : s.heap.get? c = some oc) (hcd : oc.data = .fields cv) (hc2 : cv[2]? = some .none) (ht : IsTup s.heap t items)
    (hn : (assignEach elts env).length = items.size) (hstar : (assignEach elts env).findIdx? (·.1) = none)
    (h : ∀ h', Fr g L h' m → News g L h' news → wpAny (model prog w) A (assignInOrder ((assignEach elts env).map (·.2)) items.toList) Q E { s with heap := h' }) :
    wpAny (model prog w) A (assign (.Tuple elts x1 pos) env (.ref t)) Q E s := by
  rw [assign_Tuple]
  refine wpAny_bind (wpAny_standAt (unpack_h hh hoc hcd hc2 ht hn hstar fun h' k => ?_))
  have kk : ∀ b o, s.heap.get? b = some o → h'.get? b = some o := fun b o q => k b o (Nat.ne_of_lt (Heap.lt_size q)) q
  exact h h' (F.keeps kk) (fun p hp => ⟨kk _ _ (N p hp).1, (N p hp).2⟩)
end
end Mine
end
section
open PySem PySem.W PyProof.Rows
namespace Mine
theorem off_Ini4 : True := by w_top off; exact True.intro
set_option maxRecDepth 100000
set_option linter.unusedVariables false
set_option linter.unusedSimpArgs false
set_option maxHeartbeats 8000000
local macro_rules | `(tactic| k_room) => `(tactic| ktr_room)
local macro_rules | `(tactic| k_units) => `(tactic| ktr_units)
local macro_rules | `(tactic| units_room) => `(tactic| ktr_units)
local macro_rules | `(tactic| walk_at "getMethod str") => `(tactic| (k_here; (with_reducible refine method_encode ?_)))
local macro_rules | `(tactic| walk_at "call builtin:str.encode str str") => `(tactic| (k_here; (with_reducible show wpAny _ _ (call (Value.builtin "str.encode") [Value.str (txt (_ :: _)) _, Value.str _ _]) _ _ _); k_dflt (refine encode_ascii (by assumption) (by assumption) ?_); intro _ _))
local macro_rules | `(tactic| walk_at "call builtin:str.encode") => `(tactic| (k_here; (with_reducible show wpAny _ _ (call (Value.builtin "str.encode") [Value.str (txt (_ :: _)) _, Value.str _ _]) _ _ _); k_dflt (refine encode_ascii (by assumption) (by assumption) ?_); intro _ _))
local macro_rules | `(tactic| ktn_open) => `(tactic| (repeat (first | exact List.Mem.head _ | refine List.Mem.tail _ ?_)))
local macro_rules | `(tactic| walk_at "compareOp Eq bytes str") => `(tactic| (k_here; refine eq_bytes_str ?_))
theorem init_4 (hmk : Marks hd.heap_39 PySem.Challenge.rw_vy0039_01) {prog : Program} {w : World} {p : Program} {loose : List Str} {mean : ExcName → Option Value} {mg mb : Str → Option Value} (p0 : UInt8) (ps : List UInt8) (hz : (p0 :: ps).length ≤ sizeLine) (bs : Str) (t t2 t3 t4 : Tok) (r q qd z : Addr) (n1 n2 n3 : Nat) (hh : Int) (news : Led)
  (hs : ∀ p ∈ ([(r, listOf #[.str "w" t2, .ref q] n1), (q, ({ cls := .type "tuple", data := .seq #[.bytes (p0 :: ps).toArray t, .str bs t3] n2 } : Obj))] : Led), p ∈ news) :
  ClaimT prog w (hd.heap_39 w.params) p loose mean mg mb 109 [.ref r] news (fun v tl => ∃ x, v = .ref x ∧ IsPR tl x (.ref r) (p0 :: ps) (.str bs) true) := by
  unfold ClaimT
  revert hmk
  k_fill
  intro _ dp un gd cn cs a ccd cl outer A₀ base h₀ L m s Q E B F X N T hk XB TB D hd hu hret
  k_dflt (refine' call_cls ?k1 ?k2 ?k3 ?k4 ?k5 ?k6 ?_; (case k1 => k_asm); (case k2 => k_asm); (case k3 => exact N); (case k4 => k_is); (case k5 => k_is); (case k6 => k_is); k_whole; intro x1 d1 h1 F1 N1 l1 l2)
  have N0 : News h₀ L h1 ((x1, instObj 109 d1) :: (d1, dictOf [] 0) :: [(r, listOf #[.str "w" t2, .ref q] n1), (q, ({ cls := .type "tuple", data := .seq #[.bytes (p0 :: ps).toArray t, .str bs t3] n2 } : Obj))]) := fun p hp => N1 p (by
    rcases List.mem_cons.mp hp with rfl | hp
    · exact .head _
    · rcases List.mem_cons.mp hp with rfl | hp
      · exact .tail _ (.head _)
      · exact .tail _ (.tail _ (hs p hp)))
  have l3 : ∀ p ∈ ([(r, listOf #[.str "w" t2, .ref q] n1), (q, ({ cls := .type "tuple", data := .seq #[.bytes (p0 :: ps).toArray t, .str bs t3] n2 } : Obj))] : Led), p.1 < d1 := fun p hp => l1 p (hs p hp)
  k_lt l3
  k_lt2 l2
  k_dflt (refine' code_defT ?k1 ?k2 ?k3 N0 ?k5 D ?kA ?kF ?kK ?k6 ?k7 ?k8 ?k9 ?kB ?_ ?c2 ?c3 ?c4 ?c5; (case kA => exact rfl); (case kF => exact rfl); (case kK => assumption); (case k1 => k_asm); (case k2 => k_asm); (case k3 => k_asm); (case k5 => k_asm); (case k6 => k_is); (case k7 => k_is); (case k8 => ktr_room); (case k9 => exact BindsTo.of_eq rfl); (case c5 => decide); (case kB => exact locs rfl); (case c2 => exact rfl); (case c3 => exact rfl); (case c4 => exact rfl); k_whole; intro g' L' h' FG' F' N' B' X' T' GS D'; (try dsimp only); (try k_lift B'); (try k_fold))
  k_steps
  rename Fr g' L' _ _ => F1'
  rename News g' L' _ _ => N1'
  refine assign_many (t := q) (x := .bytes (p0 :: ps).toArray t) (y := .str bs t3) rfl ⟨_, N1'.get (by ktn_open), rfl, _, rfl⟩ rfl rfl ?_
  intro h2 tk2 e2 hx2
  k_dflt (refine' caught_new (T' := "ValueError") hx2 F1' N1' B' XB TB D' ?ex PyProof.Rows.Boot.«ValueError» ?hn PySem.F.isExc_ValueError PySem.F.notTuple_ValueError ?hs ?_; (case hs => kts_sub); (case ex => k_is); (case hn => decide); k_whole)
  clear F1' N1' X' T' B' D'
  intro h3 g3 oe2 tp2 T2 TT F3 ec2 ed2 N3e B3 X3 P3 D3
  have he2 : h3.get? e2 = some oe2 := N3e.get (List.Mem.head _)
  have N3 := (show News g3 L' h3 _ from fun p hp => N3e p (List.mem_cons_of_mem _ hp))
  clear N3e
  (try k_lift B3); (try k_sweep)
  k_steps
  rename Fr g3 L' _ _ => F4
  rename News g3 L' _ _ => N4
  refine assign_h (t := q) (c := e2) (oc := oe2) F4 N4 rfl he2 ed2 rfl ⟨_, N4.get (by ktn_open), rfl, _, rfl⟩ rfl rfl ?_
  clear F4 N4 he2
  intro h5 F5 N5
  k_steps
  rename Fr g3 L' _ _ => F9
  rename News g3 L' _ _ => N9
  refine ⟨g3, L', _, _, TT, F9, N9, fun h₀' T₀ kF kN kB => ?_⟩
  kts_tail
  have hfin := fin_clsT (env := envX cn cs L a ccd cl) (tl := [(x1, _), (d1, _)]) rfl B N1 l1 l2 hs GS TT T₀ F9 N9 kN (forall_in_cons (by ktn_open) (forall_in_cons (by ktn_open) (forall_in_nil))) (forall_in_cons (by ktn_open) (forall_in_cons (by ktn_open) forall_in_nil)) (forall_in_cons (forall_in_cons (by (try dsimp only); k_ne) (forall_in_cons (by (try dsimp only); k_ne) (forall_in_nil))) (forall_in_cons (forall_in_cons (by (try dsimp only); k_ne) (forall_in_cons (by (try dsimp only); k_ne) (forall_in_nil))) forall_in_nil))
  refine hret _ _ _ _ _ T₀ kB kF hfin.1 hfin.2 ?_
  clear hfin hret kF kN F9 N9
  exact ⟨x1, rfl, d1, _, _, _, .head _, .tail _ (.head _), by k_get, by k_get, ⟨_, by k_get⟩, by (try simp only [Bool.false_eq_true, if_false, if_true]); k_get, by k_get⟩

end Mine
end
section
open PySem PySem.W PyProof.Rows
namespace Mine
set_option maxRecDepth 100000
theorem DIn.bytes_inv {news : Led} {v : Value} {b : List UInt8} (h : DIn news v (.bytes b)) : ∃ t, v = .bytes b.toArray t := by cases h; exact ⟨_, rfl⟩
theorem DIn.str_inv {news : Led} {v : Value} {b : Str} (h : DIn news v (.str b)) : ∃ t, v = .str b t := by cases h; exact ⟨_, rfl⟩
theorem DIn.none_inv {news : Led} {v : Value} (h : DIn news v .none) : v = .none := by cases h; rfl
theorem DIn.bool_inv {news : Led} {v : Value} {b : Bool} (h : DIn news v (.bool b)) : v = .bool b := by cases h; rfl
theorem DIn.tup_inv {news : Led} {v : Value} {ds : List Dt} (h : DIn news v (.tup ds)) : ∃ a vs n, v = .ref a ∧ (a, ({ cls := .type "tuple", data := .seq vs.toArray n } : Obj)) ∈ news ∧ DAll news vs ds := by cases h; exact ⟨_, _, _, rfl, by assumption, by assumption⟩
theorem DIn.lst_inv {news : Led} {v : Value} {ds : List Dt} (h : DIn news v (.lst ds)) : ∃ a vs n, v = .ref a ∧ (a, listOf vs.toArray n) ∈ news ∧ DAll news vs ds := by cases h; exact ⟨_, _, _, rfl, by assumption, by assumption⟩
theorem DIn.bad_inv {news : Led} {v : Value} {ds : List Dt} (h : DIn news v (.bad ds)) : ∃ a d t hh tk vs n k, v = .ref a ∧ (a, instObj 31 d) ∈ news ∧ (d, dictOf [⟨hh, .str "args" tk, .ref t⟩] k) ∈ news ∧ (t, ({ cls := .type "tuple", data := .seq vs.toArray n } : Obj)) ∈ news ∧ DAll news vs ds := by
  cases h; exact ⟨_, _, _, _, _, _, _, _, rfl, by assumption, by assumption, by assumption, by assumption⟩
theorem DAll.cons_inv {news : Led} {vs : List Value} {d : Dt} {ds : List Dt} (h : DAll news vs (d :: ds)) : ∃ v vs', vs = v :: vs' ∧ DIn news v d ∧ DAll news vs' ds := by cases h; exact ⟨_, _, rfl, by assumption, by assumption⟩
theorem DAll.nil_inv {news : Led} {vs : List Value} (h : DAll news vs []) : vs = [] := by cases h; rfl
theorem DAll.one {news : Led} {vs : List Value} {d : Dt} (h : DAll news vs [d]) : ∃ v, vs = [v] ∧ DIn news v d := by
  obtain ⟨v, _, rfl, hd, h⟩ := h.cons_inv; cases h.nil_inv; exact ⟨v, rfl, hd⟩
theorem DAll.two {news : Led} {vs : List Value} {d e : Dt} (h : DAll news vs [d, e]) : ∃ v u, vs = [v, u] ∧ DIn news v d ∧ DIn news u e := by
  obtain ⟨v, _, rfl, hd, h⟩ := h.cons_inv; obtain ⟨u, rfl, he⟩ := h.one; exact ⟨v, u, rfl, hd, he⟩
theorem DAll.three {news : Led} {vs : List Value} {d e f : Dt} (h : DAll news vs [d, e, f]) : ∃ v u x, vs = [v, u, x] ∧ DIn news v d ∧ DIn news u e ∧ DIn news x f := by
  obtain ⟨v, _, rfl, hd, h⟩ := h.cons_inv; obtain ⟨u, x, rfl, he⟩ := h.two; exact ⟨v, u, x, rfl, hd, he⟩
/-- what a reference is made of, by its form -/
theorem eight {o : List UInt8} (h : o.length = 8) : ∃ p0 ps, o = p0 :: ps ∧ (p0 :: ps).length ≤ sizeLine := by
  cases o with
  | nil => cases h
  | cons p0 ps => exact ⟨p0, ps, rfl, by rw [h]; decide⟩
theorem plain_low (o : List UInt8) : ∀ b ∈ plainOf o, b.toNat < 128 := fun b hb => by
  obtain ⟨c, _, rfl⟩ := List.mem_map.mp hb
  rw [UInt8.toNat_mod]
  exact Nat.mod_lt _ (by decide)
theorem pr_of_form (hmk : Marks hd.heap_39 PySem.Challenge.rw_vy0039_01) {prog : Program} {w : World} {p : Program} {loose : List Str} {mean : ExcName → Option Value} {mg mb : Str → Option Value}
    {k : Nat} (hk : k < 12) {o : List UInt8} (ho : o.length = 8) {b : Str} {r : Value} {news : Led} (hr : DIn news r (refD k o b)) :
    ClaimT prog w (hd.heap_39 w.params) p loose mean mg mb 109 [r] news (fun v tl => ∃ x, v = .ref x ∧ IsPR tl x r (oidOf k o) (dbOf k b) (weakOf k)) := by
  obtain ⟨p0, ps, ho', hz⟩ := eight ho
  obtain ⟨q0, qs, hp', hzp⟩ := eight (o := plainOf o) (by simpa [plainOf] using ho)
  have hlow := plain_low o
  rw [hp'] at hlow
  rw [ho'] at hp'
  have hks : k = 0 ∨ k = 1 ∨ k = 2 ∨ k = 3 ∨ k = 4 ∨ k = 5 ∨ k = 6 ∨ k = 7 ∨ k = 8 ∨ k = 9 ∨ k = 10 ∨ k = 11 := by omega
  rcases hks with rfl | rfl | rfl | rfl | rfl | rfl | rfl | rfl | rfl | rfl | rfl | rfl <;> simp only [refD, oidOf, dbOf, weakOf, ho', hp'] at hr ⊢
  · obtain ⟨t, rfl⟩ := hr.bytes_inv
    exact (init_0 hmk p0 ps hz "" t 0 0 0 0 0 0 0 0 0 0 0 news (by intro _ h; cases h)).toT
  · obtain ⟨t, rfl⟩ := hr.str_inv
    exact (init_1 hmk q0 qs hlow hzp "" t 0 0 0 0 0 0 0 0 0 0 0 news (by intro _ h; cases h)).toT
  · obtain ⟨r, vs, n1, rfl, hm, ha⟩ := hr.tup_inv
    obtain ⟨v0, v1, rfl, h0, h1⟩ := ha.two
    obtain ⟨t, rfl⟩ := h0.bytes_inv
    obtain ⟨t2, rfl⟩ := h1.str_inv
    exact (init_2 hmk p0 ps hz "" t t2 0 0 r 0 0 0 n1 0 0 0 news (forall_in_cons hm forall_in_nil)).toT
  · obtain ⟨r, vs, n1, rfl, hm, ha⟩ := hr.lst_inv
    obtain ⟨v0, v1, rfl, h0, h1⟩ := ha.two
    obtain ⟨t2, rfl⟩ := h0.str_inv
    obtain ⟨q, ws, n2, rfl, hm2, ha2⟩ := h1.tup_inv
    obtain ⟨w0, rfl, g0⟩ := ha2.one
    obtain ⟨t, rfl⟩ := g0.bytes_inv
    exact (init_3 hmk p0 ps hz "" t t2 0 0 r q 0 0 n1 n2 0 0 news (forall_in_cons hm (forall_in_cons hm2 forall_in_nil))).toT
  · obtain ⟨r, vs, n1, rfl, hm, ha⟩ := hr.lst_inv
    obtain ⟨v0, v1, rfl, h0, h1⟩ := ha.two
    obtain ⟨t2, rfl⟩ := h0.str_inv
    obtain ⟨q, ws, n2, rfl, hm2, ha2⟩ := h1.tup_inv
    obtain ⟨w0, w1, rfl, g0, g1⟩ := ha2.two
    obtain ⟨t, rfl⟩ := g0.bytes_inv
    obtain ⟨t3, rfl⟩ := g1.str_inv
    exact init_4 hmk p0 ps hz b t t2 t3 0 r q 0 0 n1 n2 0 0 news (forall_in_cons hm (forall_in_cons hm2 forall_in_nil))
  · obtain ⟨r, vs, n1, rfl, hm, ha⟩ := hr.lst_inv
    obtain ⟨v0, rfl, h0⟩ := ha.one
    obtain ⟨t, rfl⟩ := h0.bytes_inv
    exact (init_5 hmk p0 ps hz "" t 0 0 0 r 0 0 0 n1 0 0 0 news (forall_in_cons hm forall_in_nil)).toT
  · obtain ⟨r, vs, n1, rfl, hm, ha⟩ := hr.lst_inv
    obtain ⟨v0, v1, rfl, h0, h1⟩ := ha.two
    obtain ⟨t2, rfl⟩ := h0.str_inv
    obtain ⟨q, ws, n2, rfl, hm2, ha2⟩ := h1.tup_inv
    obtain ⟨w0, w1, rfl, g0, g1⟩ := ha2.two
    obtain ⟨t3, rfl⟩ := g0.str_inv
    obtain ⟨t, rfl⟩ := g1.bytes_inv
    exact (init_6 hmk p0 ps hz b t t2 t3 0 r q 0 0 n1 n2 0 0 news (forall_in_cons hm (forall_in_cons hm2 forall_in_nil))).toT
  · obtain ⟨r, vs, n1, rfl, hm, ha⟩ := hr.lst_inv
    obtain ⟨v0, v1, rfl, h0, h1⟩ := ha.two
    obtain ⟨t2, rfl⟩ := h0.str_inv
    obtain ⟨q, ws, n2, rfl, hm2, ha2⟩ := h1.tup_inv
    obtain ⟨w0, w1, w2, rfl, g0, g1, g2⟩ := ha2.three
    obtain ⟨t3, rfl⟩ := g0.str_inv
    obtain ⟨t, rfl⟩ := g1.bytes_inv
    obtain ⟨t4, rfl⟩ := g2.str_inv
    exact (init_7 hmk p0 ps hz b t t2 t3 t4 r q 0 0 n1 n2 0 0 news (forall_in_cons hm (forall_in_cons hm2 forall_in_nil))).toT
  · obtain ⟨r, vs, n1, rfl, hm, ha⟩ := hr.tup_inv
    obtain ⟨v0, v1, rfl, h0, h1⟩ := ha.two
    obtain ⟨t, rfl⟩ := h0.str_inv
    cases h1.none_inv
    exact (init_8 hmk q0 qs hlow hzp "" t 0 0 0 r 0 0 0 n1 0 0 0 news (forall_in_cons hm forall_in_nil)).toT
  · obtain ⟨r, vs, n1, rfl, hm, ha⟩ := hr.lst_inv
    obtain ⟨v0, v1, rfl, h0, h1⟩ := ha.two
    obtain ⟨t2, rfl⟩ := h0.str_inv
    obtain ⟨q, ws, n2, rfl, hm2, ha2⟩ := h1.tup_inv
    obtain ⟨w0, rfl, g0⟩ := ha2.one
    obtain ⟨t, rfl⟩ := g0.str_inv
    exact (init_9 hmk q0 qs hlow hzp "" t t2 0 0 r q 0 0 n1 n2 0 0 news (forall_in_cons hm (forall_in_cons hm2 forall_in_nil))).toT
  · obtain ⟨r, vs, n1, rfl, hm, ha⟩ := hr.lst_inv
    obtain ⟨v0, v1, rfl, h0, h1⟩ := ha.two
    obtain ⟨t2, rfl⟩ := h0.str_inv
    obtain ⟨q, ws, n2, rfl, hm2, ha2⟩ := h1.tup_inv
    obtain ⟨w0, w1, rfl, g0, g1⟩ := ha2.two
    obtain ⟨t3, rfl⟩ := g0.str_inv
    obtain ⟨t, rfl⟩ := g1.str_inv
    exact (init_10 hmk q0 qs hlow hzp b t t2 t3 0 r q 0 0 n1 n2 0 0 news (forall_in_cons hm (forall_in_cons hm2 forall_in_nil))).toT
  · obtain ⟨r, vs, n1, rfl, hm, ha⟩ := hr.lst_inv
    obtain ⟨v0, v1, rfl, h0, h1⟩ := ha.two
    obtain ⟨t2, rfl⟩ := h0.str_inv
    obtain ⟨q, ws, n2, rfl, hm2, ha2⟩ := h1.tup_inv
    obtain ⟨w0, w1, w2, rfl, g0, g1, g2⟩ := ha2.three
    obtain ⟨t3, rfl⟩ := g0.str_inv
    obtain ⟨t, rfl⟩ := g1.str_inv
    cases g2.none_inv
    exact (init_11 hmk q0 qs hlow hzp b t t2 t3 0 r q 0 0 n1 n2 0 0 news (forall_in_cons hm (forall_in_cons hm2 forall_in_nil))).toT
end Mine
end
section
open PySem PySem.W PyProof.Rows
namespace Mine
set_option maxRecDepth 100000
/-- a ledger read in a heap that holds it -/
def Holds (h : Heap) (rl : Led) : Prop := ∀ q ∈ rl, h.get? q.1 = some q.2
mutual
theorem rd_h {h : Heap} {rl : Led} (N : Holds h rl) : ∀ {v : Value} {d : Dt} (n : Nat), DIn rl v d → okD true n d = true → Rd h v d
  | _, _, _, .none, _ => .none
  | _, _, _, .bool b, _ => .bool b
  | _, _, _, .int i t, _ => .int i t
  | _, _, _, .str x t, _ => .str x t
  | _, _, _, .bytes b t, _ => .bytes b t
  | _, _, 0, .tup _ _, hk => by simp [okD] at hk
  | _, _, 0, .lst _ _, hk => by simp [okD] at hk
  | _, _, n + 1, .tup hm r, hk => .tup ⟨_, N _ hm, rfl, _, rfl⟩ (rd_h_all N n r (by simpa [okD] using hk))
  | _, _, n + 1, .lst hm r, hk => .lst ⟨_, N _ hm, rfl, _, rfl⟩ (rd_h_all N n r (by simpa [okD] using hk))
  | _, _, 0, .bad _ _ _ _, hk => by simp [okD] at hk
  | _, _, n + 1, .bad _ _ _ _, hk => by simp [okD] at hk
theorem rd_h_all {h : Heap} {rl : Led} (N : Holds h rl) : ∀ {vs : List Value} {ds : List Dt} (n : Nat), DAll rl vs ds → (∀ d ∈ ds, okD true n d = true) → RdAll h vs ds
  | _, _, _, .nil, _ => .nil
  | _, _, n, .cons hd r, hk => .cons (rd_h N n hd (hk _ (.head _))) (rd_h_all N n r fun d hd => hk d (.tail _ hd))
end
/-- how tuple(r) makes a new tuple of the data ds -/
def TupRule (prog : Program) (w : World) (r : Value) (rl : Led) (ds : List Dt) : Prop :=
  ∀ (A : Around) (E : Value → Shared → Prop) (s : Shared) (g : Heap) (L : Addr) (m : Str → Option Value) (news : Led) (Q : Value → Shared → Prop), A.handled = none → Fr g L s.heap m → News g L s.heap news → Holds g rl →
    (∀ D h' tk ys, Fr g L h' m → News g L h' ((D, ({ cls := .type "tuple", data := .seq ys.toArray } : Obj)) :: news) → (∀ p ∈ news, p.1 < D) → DAll rl ys ds → Q (.ref D) { s with heap := h', toks := tk }) →
    wpAny (model prog w) A (call (.type "tuple") [r]) Q E s
theorem dall_ints {rl : Led} : ∀ {ys : List Value} {ks : List Int}, AreOf ItemKind.int ys ks → DAll rl ys (ks.map .int)
  | _, _, .nil => .nil
  | _, _, .cons h r => by
    obtain ⟨u, rfl⟩ := h
    exact .cons (.int _ u) (dall_ints r)
theorem dall_strs {rl : Led} : ∀ {ys : List Value} {ks : List Str}, CarriedAll ys (ks.map PyData.str) → DAll rl ys (ks.map .str)
  | _, [], h => by cases h; exact .nil
  | _, k :: ks, h => by
    cases h with
    | cons h r =>
      cases h with
      | str _ t => exact .cons (.str k t) (dall_strs r)
theorem TupRule.bytes {prog : Program} {w : World} {o : List UInt8} {t : Tok} {rl : Led} (hz : o.length ≤ sizeLine) : TupRule prog w (.bytes o.toArray t) rl ((KBw.bInts o.toArray).map .int) :=
  fun A E s g L m news Q hh F N _ h => tuple_bytes hh F N (by simpa using hz) fun D h' tk ys F' N' ne a => h D h' tk ys F' N' ne (dall_ints a)
theorem TupRule.str {prog : Program} {w : World} {x : Str} {t : Tok} {rl : Led} (hz : x.length ≤ sizeLine) : TupRule prog w (.str x t) rl ((signs x).map .str) :=
  fun A E s g L m news Q hh F N _ h => tuple_str hh F N hz fun D h' tk ys F' N' ne a => h D h' tk ys F' N' ne (dall_strs a)
theorem TupRule.lst {prog : Program} {w : World} {a : Addr} {vs : List Value} {k : Nat} {rl : Led} {ds : List Dt} (hm : (a, listOf vs.toArray k) ∈ rl) (hd : DAll rl vs ds) (hz : vs.length ≤ sizeLine) : TupRule prog w (.ref a) rl ds :=
  fun A E s g L m news Q hh F N hold h => by
    refine call_tuple_list (items := vs.toArray) ⟨_, F.keep _ _ (hold _ hm), rfl, k, rfl⟩ (fun h' hk => ?_) (by simpa using hz)
    have F' : Fr g L h' m := F.keeps hk
    have N' : News g L h' news := fun p hp => ⟨hk _ _ (N p hp).1, (N p hp).2⟩
    have F2 : Fr g L (h'.push { cls := .type "tuple", data := .seq vs.toArray }) m := F'.push _
    exact h h'.objs.size _ s.toks vs F2 (News.more F2 (fun p hp => ⟨Heap.get?_push_of_some _ (N' p hp).1, (N' p hp).2⟩) (Heap.get?_push_size _ rfl) (fun es n q => by cases q) (none_at_end F')) (fun p hp => Heap.lt_size (N' p hp).1) hd
theorem fin_load {h₀ g g' h' H1 : Heap} {env : Env} {L L' : Addr} {m' : Str → Option Value} {news fin rest : Led} {as : List Addr} (hf : env.frame = some L)
    (N : News h₀ L H1 news) (GS : GSub H1 g as) (T' : KtsTurn ([env].filterMap (·.frame)) g g') (F' : Fr g' L' h' m') (N' : News g' L' h' fin) (kN : News h₀ L h' fin) (hr : ∀ q ∈ rest, q ∈ news) (hap : ∀ q ∈ rest, q.1 ∉ as) :
    News h₀ L h' (fin ++ rest) ∧ ∀ q ∈ rest, ∀ p ∈ fin, p.1 ≠ q.1 := by
  have way : ∀ q ∈ rest, g'.get? q.1 = some q.2 := fun q hq => T'.other _ _ (GS _ _ (N q (hr q hq)).1 (hap q hq)) fun hm => by
    rcases tu_mem hf hm with z | z
    · exact (N q (hr q hq)).2.1 z
    · cases z
  refine ⟨fun p hp => ?_, fun q hq p hp e => ?_⟩
  · rcases List.mem_append.mp hp with hp | hp
    · exact kN p hp
    · exact ⟨F'.keep _ _ (way p hp), (N p (hr p hp)).2⟩
  · have h1 := (N' p hp).2.2
    rw [e, way q hq] at h1
    cases h1
theorem atKey_mem {xs : List (Dt × Addr × Value)} {k : Dt} {p : Addr × Value} [DecidableEq Dt] (h : atKey xs k = some p) : (k, p) ∈ xs := by
  unfold atKey at h
  cases e : xs.find? (fun x => decide (x.1 = k)) with
  | none => rw [e] at h; cases h
  | some x =>
    rw [e] at h
    have h1 := List.find?_some e
    have h2 := List.mem_of_find?_eq_some e
    obtain ⟨x1, x2⟩ := x
    simp only [Option.map_some, Option.some.injEq] at h
    subst h
    have : x1 = k := by simpa using h1
    rw [← this]; exact h2
theorem news_swap {g h : Heap} {L : Addr} {a b : Led} (N : News g L h (a ++ b)) : News g L h (b ++ a) := fun p hp => N p (by
  rcases List.mem_append.mp hp with h | h
  · exact List.mem_append_right _ h
  · exact List.mem_append_left _ h)
end Mine
end
section
open PySem PySem.W PyProof.Rows
namespace Mine
theorem off_LoadA : True := by w_top off; exact True.intro
open scoped Classical
set_option maxRecDepth 100000
set_option linter.unusedVariables false
set_option linter.unusedSimpArgs false
set_option maxHeartbeats 8000000
local macro_rules | `(tactic| k_room) => `(tactic| ktr_room)
local macro_rules | `(tactic| k_units) => `(tactic| ktr_units)
local macro_rules | `(tactic| units_room) => `(tactic| ktr_units)
local macro_rules | `(tactic| ktn_open) => `(tactic| (repeat (first | exact List.Mem.head _ | refine List.Mem.tail _ ?_)))
local macro_rules | `(tactic| walk_at "call ref cons nil") => `(tactic| (k_here; (with_reducible show wpAny _ _ (call (Value.ref 109) [_]) _ _ _); refine held_ ?_))
theorem load_set_other (hmk : Marks hd.heap_39 PySem.Challenge.rw_vy0039_01) {prog : Program} {w : World} {p : Program} {loose : List Str} {mean : ExcName → Option Value} {mg mb : Str → Option Value} {fa fd kd : Addr} {hh : Int} {t0 : Tok} {n : Nat} {KO : Obj} {xs : List (Dt × Addr × Value)} {r : Value} {rl rest : Led} {ds : List Dt} {RR : Value → Led → Prop}
  (hT : TupRule prog w r rl ds) (hok : okK 3 (.tup ds) = true) (hrl : ∀ q ∈ rl, q ∈ rest) (hap : ∀ q ∈ rest, q.1 ≠ fa ∧ q.1 ≠ fd ∧ q.1 ≠ kd) (hne1 : @Ne Nat fa fd) (hne2 : @Ne Nat fa kd) (hne3 : @Ne Nat fd kd)
  (hTab : TabObj prog w KO xs) (hkeys : ∀ x ∈ xs, DIn rest (.ref x.2.1) x.1 ∧ okK 3 x.1 = true) (hvals : ∀ x ∈ xs, ∃ x0, x.2.2 = .ref x0) (lo : (kd == sysModules) = false) (hz : xs.length ≤ sizeLine)
  (hmade : ∀ news, (∀ q ∈ rl, q ∈ news) → ClaimT prog w (hd.heap_39 w.params) p loose mean mg mb 109 [r] news RR)
  (dp un : Nat) (gd : Option (List Code)) (cn : Str) (cs : Scope) (a : Addr) (ccd : Value) (cl : List (Str × Addr)) (A₀ : Around) (h₀ : Heap) (L : Addr) (m : Str → Option Value) (s : Shared) (Q E : Value → Shared → Prop) :
  Below A₀ h₀ [] h₀ → Fr h₀ L s.heap m → (hd.heap_39 w.params).In h₀ → News h₀ L s.heap ((fa, instObj 130 fd) :: (fd, dictOf [⟨hh, .str "data" t0, .ref kd⟩] n) :: (kd, KO) :: rest) → Top p loose mean mg mb h₀ → cs.kind = .function → dp + 40 < recursionLimit → un + 320 < cLine →
  (∀ ka0 x0 h' tk', atKey xs (.tup ds) = some (ka0, .ref x0) → Fr h₀ L h' m → News h₀ L h' ((fa, instObj 130 fd) :: (fd, dictOf [⟨hh, .str "data" t0, .ref kd⟩] n) :: (kd, KO) :: rest) → Q (.ref x0) { s with heap := h', toks := tk' }) →
  (∀ v tl D ys h' KO' tk', atKey xs (.tup ds) = none → Fr h₀ L h' m → News h₀ L h' (((D, ({ cls := .type "tuple", data := .seq ys.toArray } : Obj)) :: (fa, instObj 130 fd) :: (fd, dictOf [⟨hh, .str "data" t0, .ref kd⟩] n) :: (kd, KO') :: tl) ++ rest) →
    (∀ q ∈ rest, ∀ p ∈ ((D, ({ cls := .type "tuple", data := .seq ys.toArray } : Obj)) :: (fa, instObj 130 fd) :: (fd, dictOf [⟨hh, .str "data" t0, .ref kd⟩] n) :: (kd, KO') :: tl : Led), p.1 ≠ q.1) →
    (∀ p ∈ tl, @Ne Nat p.1 fa ∧ @Ne Nat p.1 fd ∧ @Ne Nat p.1 kd) → TabObj prog w KO' (storedH xs (.tup ds) D v) → DAll rl ys ds → RR v tl → Q v { s with heap := h', toks := tk' }) →
  wpAny (model prog w) (ktrTop dp un gd cn cs L a ccd cl []) (call (.ref 127) [.ref fa, r]) Q E s := by
  revert hmk
  k_fill
  intro _ B F X N T hk hd hu hfound hmiss
  have N0 : News h₀ L s.heap [(fa, instObj 130 fd), (fd, dictOf [⟨hh, .str "data" t0, .ref kd⟩] n), (kd, KO)] := fun p hp => N p (by
    rcases List.mem_cons.mp hp with rfl | hp
    · exact .head _
    · rcases List.mem_cons.mp hp with rfl | hp
      · exact .tail _ (.head _)
      · cases List.mem_singleton.mp hp
        exact .tail _ (.tail _ (.head _)))
  have D0 : KtsDicts (([] : List Env).filterMap (·.frame)) h₀ := ktsDicts_nil
  refine wpAny_call ?_
  k_dflt (refine' code_defT ?k1 ?k2 ?k3 N0 ?k5 D0 ?kA ?kF ?kK ?k6 ?k7 ?k8 ?k9 ?kB ?_ ?c2 ?c3 ?c4 ?c5; (case kA => exact rfl); (case kF => exact rfl); (case kK => assumption); (case k1 => k_asm); (case k2 => k_asm); (case k3 => k_asm); (case k5 => k_asm); (case k6 => k_is); (case k7 => k_is); (case k8 => ktr_room); (case k9 => exact BindsTo.of_eq rfl); (case c5 => decide); (case kB => exact locs rfl); (case c2 => exact rfl); (case c3 => exact rfl); (case c4 => exact rfl); k_whole; intro g' L' h' FG' F' N' B' X' T' GS D'; (try dsimp only); (try k_lift B'); (try k_fold))
  have hold : Holds g' rest := fun q hq => GS _ _ (N q (.tail _ (.tail _ (.tail _ hq)))).1 (by
    have z := hap q hq
    intro hm
    rcases List.mem_cons.mp hm with e | hm
    · exact z.1 e
    · rcases List.mem_cons.mp hm with e | hm
      · exact z.2.1 e
      · exact z.2.2 (List.mem_singleton.mp hm))
  have KB : KeysIn g' xs := fun x hx => ⟨rd_h hold 3 (hkeys x hx).1 (okK_okD 3 _ (hkeys x hx).2), (hkeys x hx).2⟩
  k_steps
  k_dflt (refine hT _ _ _ _ _ _ _ _ rfl (by k_asm) (by k_asm) (fun q hq => hold q (hrl q hq)) ?_)
  intro D1 h1 tk1 ys F1 N1 l1 da1
  k_lt l1
  k_steps
  rename Fr g' L' _ _ => F2
  rename News g' L' _ _ => N2
  refine tab_get_method N2 (by ktn_open) hTab (KB.keeps F2.keep) ?_
  k_steps
  have hk2 : ∀ h, (∀ b o, g'.get? b = some o → h.get? b = some o) → h.get? D1 = some ({ cls := .type "tuple", data := .seq ys.toArray } : Obj) → Rd h (.ref D1) (.tup ds) := fun h hk hD =>
    .tup ⟨_, hD, rfl, _, rfl⟩ (rd_h_all (rl := rl) (fun q hq => hk _ _ (hold q (hrl q hq))) 2 da1 fun d hd => okK_okD 2 d (by simp only [okK, List.all_eq_true] at hok; exact hok d hd))
  refine tab_get (k := .tup ds) (by ktr_units) N2 (by ktn_open) hTab (KB.keeps F2.keep) lo (hk2 _ F2.keep (N2.get (by ktn_open))) hok ?_
  intro tk3
  rcases hat : atKey xs (.tup ds) with _ | ⟨ka0, v0⟩
  · simp only [Option.map_none, Option.getD_none]
    k_steps
    unfold Held
    rename Fr g' L' _ _ => F3
    rename News g' L' _ _ => N3
    have hcl := fun nn => ClaimT.based (rl := rl) (news := nn) (hmade (rl ++ nn) (fun q hq => List.mem_append_left _ hq))
    refine hcl _ _ _ _ _ _ _ _ _ _ _ h₀ g' L' _ _ _ _ B' F3 N3 rfl X T D' (fun q hq => ⟨hold q (hrl q hq), (N q (.tail _ (.tail _ (.tail _ (hrl q hq))))).2.2, fun hm => ?_⟩) (by ktr_room) (by ktr_units) ?_
    · rcases tu_mem (env := envX cn cs L a ccd cl) rfl hm with z | z
      · exact (N q (.tail _ (.tail _ (.tail _ (hrl q hq))))).2.1 z
      · cases z
    intro v4 tl4 g4 h4 tk4 T4 B4 F4 N4e ne4 hb4 r4
    have N4 := (show News g4 L' h4 ((D1, ({ cls := .type "tuple", data := .seq ys.toArray } : Obj)) :: (fa, instObj 130 fd) :: (fd, dictOf [⟨hh, .str "data" t0, .ref kd⟩] n) :: (kd, KO) :: tl4) from fun p hp => N4e p (by
      simp only [List.mem_append, List.mem_cons] at hp ⊢
      rcases hp with h | h | h | h | h
      · exact .inr (.inl h)
      · exact .inr (.inr (.inl h))
      · exact .inr (.inr (.inr (.inl h)))
      · exact .inr (.inr (.inr (.inr (.inl h))))
      · exact .inl h))
    clear F3 N3 N4e X' T' B' D' hcl
    have X4 := X.keeps B4.stays
    have T4' := T.keeps B4.stays
    (try k_lift B4)
    have hold4 : Holds g4 rest := fun q hq => T4.other _ _ (hold q hq) fun hm => by
      rcases tu_mem (env := envX cn cs L a ccd cl) rfl hm with z | z
      · exact (N q (.tail _ (.tail _ (.tail _ hq)))).2.1 z
      · cases z
    have KB4 : KeysIn g4 xs := fun x hx => ⟨rd_h hold4 3 (hkeys x hx).1 (okK_okD 3 _ (hkeys x hx).2), (hkeys x hx).2⟩
    k_steps
    rename Fr g4 L' _ _ => F5
    rename News g4 L' _ _ => N5
    have ne5 : ∀ p ∈ tl4, p.1 ≠ kd := fun p hp => ne4 (kd, KO) (.tail _ (.tail _ (.tail _ (.head _)))) p hp
    refine tab_set (k := .tup ds) (by ktr_units) F5 N5 (.tail (by (try dsimp only); k_ne) (.tail (by exact hne2) (.tail (by exact hne3) (.head ne5)))) hTab (KB4.keeps F5.keep)
      (.tup ⟨_, N5.get (by ktn_open), rfl, _, rfl⟩ (rd_h_all (rl := rl) (fun q hq => F5.keep _ _ (hb4 q hq)) 2 da1 fun d hd => okK_okD 2 d (by simp only [okK, List.all_eq_true] at hok; exact hok d hd))) hok hz ?_
    clear F5 N5
    intro h6 KO6 tk6 F6 N6 Tab6
    k_steps
    rename Fr g4 L' _ _ => F9
    rename News g4 L' _ _ => N9
    refine ⟨g4, L', _, _, T4, F9, N9, fun h₀' T₀ kF kN kB => ?_⟩
    obtain ⟨kF2, kN2⟩ := turn_back T₀ kF kN
    kts_tail
    have hfin := fin_load (env := envX cn cs L a ccd cl) (rest := rest) rfl N GS T4 F9 N9 kN2 (fun q hq => .tail _ (.tail _ (.tail _ hq))) (fun q hq hm => by
      have z := hap q hq
      rcases List.mem_cons.mp hm with e | hm
      · exact z.1 e
      · rcases List.mem_cons.mp hm with e | hm
        · exact z.2.1 e
        · exact z.2.2 (List.mem_singleton.mp hm))
    exact hmiss v4 tl4 D1 ys _ KO6 _ hat kF2 hfin.1 hfin.2 (fun p hp => ⟨ne4 (fa, _) (.tail _ (.head _)) p hp, ne4 (fd, _) (.tail _ (.tail _ (.head _))) p hp, ne4 (kd, _) (.tail _ (.tail _ (.tail _ (.head _)))) p hp⟩) Tab6 da1 r4
  · obtain ⟨x0, rfl⟩ : ∃ x0, v0 = .ref x0 := hvals _ (atKey_mem hat)
    simp only [Option.map_some, Option.getD_some]
    k_steps
    rename Fr g' L' _ _ => F9
    rename News g' L' _ _ => N9
    refine ⟨g', L', _, _, KtsTurn.refl, F9, N9, fun h₀' T₀ kF kN kB => ?_⟩
    obtain ⟨kF2, kN2⟩ := turn_back T₀ kF kN
    kts_tail
    have hfin := fin_load (env := envX cn cs L a ccd cl) (rest := rest) rfl N GS KtsTurn.refl F9 N9 kN2 (fun q hq => .tail _ (.tail _ (.tail _ hq))) (fun q hq hm => by
      have z := hap q hq
      rcases List.mem_cons.mp hm with e | hm
      · exact z.1 e
      · rcases List.mem_cons.mp hm with e | hm
        · exact z.2.1 e
        · exact z.2.2 (List.mem_singleton.mp hm))
    exact hfound _ _ _ _ hat kF2 (fun p hp => hfin.1 p (List.mem_cons_of_mem _ hp))

end Mine
end
section
open PySem PySem.W PyProof.Rows
namespace Mine
theorem off_LoadB : True := by w_top off; exact True.intro
local macro_rules | `(tactic| walk_at "no such key 0") => `(tactic| fail)
open scoped Classical
set_option maxRecDepth 100000
set_option linter.unusedVariables false
set_option linter.unusedSimpArgs false
set_option maxHeartbeats 8000000
local macro_rules | `(tactic| k_room) => `(tactic| ktr_room)
local macro_rules | `(tactic| k_units) => `(tactic| ktr_units)
local macro_rules | `(tactic| units_room) => `(tactic| ktr_units)
local macro_rules | `(tactic| ktn_open) => `(tactic| (repeat (first | exact List.Mem.head _ | refine List.Mem.tail _ ?_)))
local macro_rules | `(tactic| walk_at "call ref cons nil") => `(tactic| (k_here; (with_reducible show wpAny _ _ (call (Value.ref 109) [_]) _ _ _); refine held_ ?_))
theorem load_set_tup (hmk : Marks hd.heap_39 PySem.Challenge.rw_vy0039_01) {prog : Program} {w : World} {p : Program} {loose : List Str} {mean : ExcName → Option Value} {mg mb : Str → Option Value} {fa fd kd : Addr} {hh : Int} {t0 : Tok} {n : Nat} {KO : Obj} {xs : List (Dt × Addr × Value)} {ra : Addr} {vs : List Value} {nk : Nat} {rl rest : Led} {ds : List Dt} {RR : Value → Led → Prop}
  (hra : (ra, ({ cls := .type "tuple", data := .seq vs.toArray nk } : Obj)) ∈ rl) (da1 : DAll rl vs ds) (hok : okK 3 (.tup ds) = true) (hrl : ∀ q ∈ rl, q ∈ rest) (hap : ∀ q ∈ rest, q.1 ≠ fa ∧ q.1 ≠ fd ∧ q.1 ≠ kd) (hne1 : @Ne Nat fa fd) (hne2 : @Ne Nat fa kd) (hne3 : @Ne Nat fd kd)
  (hTab : TabObj prog w KO xs) (hkeys : ∀ x ∈ xs, DIn rest (.ref x.2.1) x.1 ∧ okK 3 x.1 = true) (hvals : ∀ x ∈ xs, ∃ x0, x.2.2 = .ref x0) (lo : (kd == sysModules) = false) (hz : xs.length ≤ sizeLine)
  (hmade : ∀ news, (∀ q ∈ rl, q ∈ news) → ClaimT prog w (hd.heap_39 w.params) p loose mean mg mb 109 [.ref ra] news RR)
  (dp un : Nat) (gd : Option (List Code)) (cn : Str) (cs : Scope) (a : Addr) (ccd : Value) (cl : List (Str × Addr)) (A₀ : Around) (h₀ : Heap) (L : Addr) (m : Str → Option Value) (s : Shared) (Q E : Value → Shared → Prop) :
  Below A₀ h₀ [] h₀ → Fr h₀ L s.heap m → (hd.heap_39 w.params).In h₀ → News h₀ L s.heap ((fa, instObj 130 fd) :: (fd, dictOf [⟨hh, .str "data" t0, .ref kd⟩] n) :: (kd, KO) :: rest) → Top p loose mean mg mb h₀ → cs.kind = .function → dp + 40 < recursionLimit → un + 320 < cLine →
  (∀ ka0 x0 h' tk', atKey xs (.tup ds) = some (ka0, .ref x0) → Fr h₀ L h' m → News h₀ L h' ((fa, instObj 130 fd) :: (fd, dictOf [⟨hh, .str "data" t0, .ref kd⟩] n) :: (kd, KO) :: rest) → Q (.ref x0) { s with heap := h', toks := tk' }) →
  (∀ v tl h' KO' tk', atKey xs (.tup ds) = none → Fr h₀ L h' m → News h₀ L h' (((fa, instObj 130 fd) :: (fd, dictOf [⟨hh, .str "data" t0, .ref kd⟩] n) :: (kd, KO') :: tl) ++ rest) →
    (∀ q ∈ rest, ∀ p ∈ ((fa, instObj 130 fd) :: (fd, dictOf [⟨hh, .str "data" t0, .ref kd⟩] n) :: (kd, KO') :: tl : Led), p.1 ≠ q.1) →
    (∀ p ∈ tl, @Ne Nat p.1 fa ∧ @Ne Nat p.1 fd ∧ @Ne Nat p.1 kd) → TabObj prog w KO' (storedH xs (.tup ds) ra v) → RR v tl → Q v { s with heap := h', toks := tk' }) →
  wpAny (model prog w) (ktrTop dp un gd cn cs L a ccd cl []) (call (.ref 127) [.ref fa, .ref ra]) Q E s := by
  revert hmk
  k_fill
  intro _ B F X N T hk hd hu hfound hmiss
  have N0 : News h₀ L s.heap [(fa, instObj 130 fd), (fd, dictOf [⟨hh, .str "data" t0, .ref kd⟩] n), (kd, KO)] := fun p hp => N p (by
    rcases List.mem_cons.mp hp with rfl | hp
    · exact .head _
    · rcases List.mem_cons.mp hp with rfl | hp
      · exact .tail _ (.head _)
      · cases List.mem_singleton.mp hp
        exact .tail _ (.tail _ (.head _)))
  have D0 : KtsDicts (([] : List Env).filterMap (·.frame)) h₀ := ktsDicts_nil
  refine wpAny_call ?_
  k_dflt (refine' code_defT ?k1 ?k2 ?k3 N0 ?k5 D0 ?kA ?kF ?kK ?k6 ?k7 ?k8 ?k9 ?kB ?_ ?c2 ?c3 ?c4 ?c5; (case kA => exact rfl); (case kF => exact rfl); (case kK => assumption); (case k1 => k_asm); (case k2 => k_asm); (case k3 => k_asm); (case k5 => k_asm); (case k6 => k_is); (case k7 => k_is); (case k8 => ktr_room); (case k9 => exact BindsTo.of_eq rfl); (case c5 => decide); (case kB => exact locs rfl); (case c2 => exact rfl); (case c3 => exact rfl); (case c4 => exact rfl); k_whole; intro g' L' h' FG' F' N' B' X' T' GS D'; (try dsimp only); (try k_lift B'); (try k_fold))
  have hold : Holds g' rest := fun q hq => GS _ _ (N q (.tail _ (.tail _ (.tail _ hq)))).1 (by
    have z := hap q hq
    intro hm
    rcases List.mem_cons.mp hm with e | hm
    · exact z.1 e
    · rcases List.mem_cons.mp hm with e | hm
      · exact z.2.1 e
      · exact z.2.2 (List.mem_singleton.mp hm))
  have KB : KeysIn g' xs := fun x hx => ⟨rd_h hold 3 (hkeys x hx).1 (okK_okD 3 _ (hkeys x hx).2), (hkeys x hx).2⟩
  k_steps
  rename Fr g' L' _ _ => F1
  refine call_tuple_tup (items := vs.toArray) ⟨_, F1.keep _ _ (hold _ (hrl _ hra)), rfl, nk, rfl⟩ ?_
  k_steps
  rename Fr g' L' _ _ => F2
  rename News g' L' _ _ => N2
  refine tab_get_method N2 (by ktn_open) hTab (KB.keeps F2.keep) ?_
  k_steps
  have hk2 : ∀ h, (∀ b o, g'.get? b = some o → h.get? b = some o) → Rd h (.ref ra) (.tup ds) := fun h hk =>
    .tup ⟨_, hk _ _ (hold _ (hrl _ hra)), rfl, _, rfl⟩ (rd_h_all (rl := rl) (fun q hq => hk _ _ (hold q (hrl q hq))) 2 da1 fun d hd => okK_okD 2 d (by simp only [okK, List.all_eq_true] at hok; exact hok d hd))
  refine tab_get (k := .tup ds) (by ktr_units) N2 (by ktn_open) hTab (KB.keeps F2.keep) lo (hk2 _ F2.keep) hok ?_
  intro tk3
  rcases hat : atKey xs (.tup ds) with _ | ⟨ka0, v0⟩
  · simp only [Option.map_none, Option.getD_none]
    k_steps
    unfold Held
    rename Fr g' L' _ _ => F3
    rename News g' L' _ _ => N3
    have hcl := fun nn => ClaimT.based (rl := rl) (news := nn) (hmade (rl ++ nn) (fun q hq => List.mem_append_left _ hq))
    refine hcl _ _ _ _ _ _ _ _ _ _ _ h₀ g' L' _ _ _ _ B' F3 N3 rfl X T D' (fun q hq => ⟨hold q (hrl q hq), (N q (.tail _ (.tail _ (.tail _ (hrl q hq))))).2.2, fun hm => ?_⟩) (by ktr_room) (by ktr_units) ?_
    · rcases tu_mem (env := envX cn cs L a ccd cl) rfl hm with z | z
      · exact (N q (.tail _ (.tail _ (.tail _ (hrl q hq))))).2.1 z
      · cases z
    intro v4 tl4 g4 h4 tk4 T4 B4 F4 N4e ne4 hb4 r4
    have N4 := (show News g4 L' h4 ((fa, instObj 130 fd) :: (fd, dictOf [⟨hh, .str "data" t0, .ref kd⟩] n) :: (kd, KO) :: tl4) from fun p hp => N4e p (by
      simp only [List.mem_append, List.mem_cons] at hp ⊢
      rcases hp with h | h | h | h
      · exact .inr (.inl h)
      · exact .inr (.inr (.inl h))
      · exact .inr (.inr (.inr (.inl h)))
      · exact .inl h))
    clear F3 N3 N4e X' T' B' D' hcl
    have X4 := X.keeps B4.stays
    have T4' := T.keeps B4.stays
    (try k_lift B4)
    have hold4 : Holds g4 rest := fun q hq => T4.other _ _ (hold q hq) fun hm => by
      rcases tu_mem (env := envX cn cs L a ccd cl) rfl hm with z | z
      · exact (N q (.tail _ (.tail _ (.tail _ hq)))).2.1 z
      · cases z
    have KB4 : KeysIn g4 xs := fun x hx => ⟨rd_h hold4 3 (hkeys x hx).1 (okK_okD 3 _ (hkeys x hx).2), (hkeys x hx).2⟩
    k_steps
    rename Fr g4 L' _ _ => F5
    rename News g4 L' _ _ => N5
    have ne5 : ∀ p ∈ tl4, p.1 ≠ kd := fun p hp => ne4 (kd, KO) (.tail _ (.tail _ (.head _))) p hp
    refine tab_set (k := .tup ds) (by ktr_units) F5 N5 (.tail (by exact hne2) (.tail (by exact hne3) (.head ne5))) hTab (KB4.keeps F5.keep)
      (.tup ⟨_, F5.keep _ _ (hb4 _ hra), rfl, _, rfl⟩ (rd_h_all (rl := rl) (fun q hq => F5.keep _ _ (hb4 q hq)) 2 da1 fun d hd => okK_okD 2 d (by simp only [okK, List.all_eq_true] at hok; exact hok d hd))) hok hz ?_
    clear F5 N5
    intro h6 KO6 tk6 F6 N6 Tab6
    k_steps
    rename Fr g4 L' _ _ => F9
    rename News g4 L' _ _ => N9
    refine ⟨g4, L', _, _, T4, F9, N9, fun h₀' T₀ kF kN kB => ?_⟩
    obtain ⟨kF2, kN2⟩ := turn_back T₀ kF kN
    kts_tail
    have hfin := fin_load (env := envX cn cs L a ccd cl) (rest := rest) rfl N GS T4 F9 N9 kN2 (fun q hq => .tail _ (.tail _ (.tail _ hq))) (fun q hq hm => by
      have z := hap q hq
      rcases List.mem_cons.mp hm with e | hm
      · exact z.1 e
      · rcases List.mem_cons.mp hm with e | hm
        · exact z.2.1 e
        · exact z.2.2 (List.mem_singleton.mp hm))
    exact hmiss v4 tl4 _ KO6 _ hat kF2 hfin.1 hfin.2 (fun p hp => ⟨ne4 (fa, _) (.head _) p hp, ne4 (fd, _) (.tail _ (.head _)) p hp, ne4 (kd, _) (.tail _ (.tail _ (.head _))) p hp⟩) Tab6 r4
  · obtain ⟨x0, rfl⟩ : ∃ x0, v0 = .ref x0 := hvals _ (atKey_mem hat)
    simp only [Option.map_some, Option.getD_some]
    k_steps
    rename Fr g' L' _ _ => F9
    rename News g' L' _ _ => N9
    refine ⟨g', L', _, _, KtsTurn.refl, F9, N9, fun h₀' T₀ kF kN kB => ?_⟩
    obtain ⟨kF2, kN2⟩ := turn_back T₀ kF kN
    kts_tail
    have hfin := fin_load (env := envX cn cs L a ccd cl) (rest := rest) rfl N GS KtsTurn.refl F9 N9 kN2 (fun q hq => .tail _ (.tail _ (.tail _ hq))) (fun q hq hm => by
      have z := hap q hq
      rcases List.mem_cons.mp hm with e | hm
      · exact z.1 e
      · rcases List.mem_cons.mp hm with e | hm
        · exact z.2.1 e
        · exact z.2.2 (List.mem_singleton.mp hm))
    exact hfound _ _ _ _ hat kF2 hfin.1

end Mine
end
section
open PySem PySem.W PyProof.Rows
namespace Mine
theorem off_LoadC : True := by w_top off; exact True.intro
open scoped Classical
set_option maxRecDepth 100000
set_option linter.unusedVariables false
set_option linter.unusedSimpArgs false
set_option maxHeartbeats 8000000
local macro_rules | `(tactic| k_room) => `(tactic| ktr_room)
local macro_rules | `(tactic| k_units) => `(tactic| ktr_units)
local macro_rules | `(tactic| units_room) => `(tactic| ktr_units)
local macro_rules | `(tactic| ktn_open) => `(tactic| (repeat (first | exact List.Mem.head _ | refine List.Mem.tail _ ?_)))
local macro_rules | `(tactic| walk_at "call ref cons nil") => `(tactic| (k_here; (with_reducible show wpAny _ _ (call (Value.ref 109) [_]) _ _ _); refine held_ ?_))
theorem load_new_other (hmk : Marks hd.heap_39 PySem.Challenge.rw_vy0039_01) {prog : Program} {w : World} {p : Program} {loose : List Str} {mean : ExcName → Option Value} {mg mb : Str → Option Value} {fa fd kd : Addr} {hh : Int} {t0 : Tok} {n : Nat} {KO : Obj} {xs : List (Dt × Addr × Value)} {r : Value} {rl rest : Led} {ds : List Dt} {RR : Value → Led → Prop}
  (hT : TupRule prog w r rl ds) (hok : okK 3 (.tup ds) = true) (hrl : ∀ q ∈ rl, q ∈ rest) (hap : ∀ q ∈ rest, q.1 ≠ fa ∧ q.1 ≠ fd) (hne1 : @Ne Nat fa fd)
  (hmade : ∀ news, (∀ q ∈ rl, q ∈ news) → ClaimT prog w (hd.heap_39 w.params) p loose mean mg mb 109 [r] news RR)
  (dp un : Nat) (gd : Option (List Code)) (cn : Str) (cs : Scope) (a : Addr) (ccd : Value) (cl : List (Str × Addr)) (A₀ : Around) (h₀ : Heap) (L : Addr) (m : Str → Option Value) (s : Shared) (Q E : Value → Shared → Prop) :
  Below A₀ h₀ [] h₀ → Fr h₀ L s.heap m → (hd.heap_39 w.params).In h₀ → News h₀ L s.heap ((fa, instObj 130 fd) :: (fd, dictOf [] 0) :: rest) → Top p loose mean mg mb h₀ → cs.kind = .function → dp + 40 < recursionLimit → un + 320 < cLine →
  (∀ v tl D ys kd KO' hh t0 n h' tk', (kd == sysModules) = false → @LT.lt Nat _ fa kd ∧ @LT.lt Nat _ fd kd → Fr h₀ L h' m → News h₀ L h' (((D, ({ cls := .type "tuple", data := .seq ys.toArray } : Obj)) :: (kd, KO') :: (fa, instObj 130 fd) :: (fd, dictOf [⟨hh, .str "data" t0, .ref kd⟩] n) :: tl) ++ rest) →
    (∀ q ∈ rest, ∀ p ∈ ((D, ({ cls := .type "tuple", data := .seq ys.toArray } : Obj)) :: (kd, KO') :: (fa, instObj 130 fd) :: (fd, dictOf [⟨hh, .str "data" t0, .ref kd⟩] n) :: tl : Led), p.1 ≠ q.1) →
    (∀ p ∈ tl, @Ne Nat p.1 fa ∧ @Ne Nat p.1 fd ∧ @Ne Nat p.1 kd) → TabObj prog w KO' (storedH [] (.tup ds) D v) → DAll rl ys ds → RR v tl → Q v { s with heap := h', toks := tk' }) →
  wpAny (model prog w) (ktrTop dp un gd cn cs L a ccd cl []) (call (.ref 127) [.ref fa, r]) Q E s := by
  revert hmk
  k_fill
  intro _ B F X N T hk hd hu hmiss
  have N0 : News h₀ L s.heap [(fa, instObj 130 fd), (fd, dictOf [] 0)] := fun p hp => N p (by
    rcases List.mem_cons.mp hp with rfl | hp
    · exact .head _
    · cases List.mem_singleton.mp hp
      exact .tail _ (.head _))
  have D0 : KtsDicts (([] : List Env).filterMap (·.frame)) h₀ := ktsDicts_nil
  refine wpAny_call ?_
  k_dflt (refine' code_defT ?k1 ?k2 ?k3 N0 ?k5 D0 ?kA ?kF ?kK ?k6 ?k7 ?k8 ?k9 ?kB ?_ ?c2 ?c3 ?c4 ?c5; (case kA => exact rfl); (case kF => exact rfl); (case kK => assumption); (case k1 => k_asm); (case k2 => k_asm); (case k3 => k_asm); (case k5 => k_asm); (case k6 => k_is); (case k7 => k_is); (case k8 => ktr_room); (case k9 => exact BindsTo.of_eq rfl); (case c5 => decide); (case kB => exact locs rfl); (case c2 => exact rfl); (case c3 => exact rfl); (case c4 => exact rfl); k_whole; intro g' L' h' FG' F' N' B' X' T' GS D'; (try dsimp only); (try k_lift B'); (try k_fold))
  have hold : Holds g' rest := fun q hq => GS _ _ (N q (.tail _ (.tail _ hq))).1 (by
    have z := hap q hq
    intro hm
    rcases List.mem_cons.mp hm with e | hm
    · exact z.1 e
    · exact z.2 (List.mem_singleton.mp hm))
  k_steps
  rename_i kd hq KO lo' hsd f1 hi1 f2 lq h0 Fq Nq
  have Tab0 : TabObj prog w KO [] := TabObj.nil hsd
  k_dflt (refine hT _ _ _ _ _ _ _ _ rfl (by k_asm) (by k_asm) (fun q hq => hold q (hrl q hq)) ?_)
  intro D1 h1 tk1 ys F1 N1 l1 da1
  k_lt l1
  k_steps
  rename Fr g' L' _ _ => F2
  rename News g' L' _ _ => N2
  have hk2 : ∀ h, (∀ b o, g'.get? b = some o → h.get? b = some o) → h.get? D1 = some ({ cls := .type "tuple", data := .seq ys.toArray } : Obj) → Rd h (.ref D1) (.tup ds) := fun h hk hD =>
    .tup ⟨_, hD, rfl, _, rfl⟩ (rd_h_all (rl := rl) (fun q hq => hk _ _ (hold q (hrl q hq))) 2 da1 fun d hd => okK_okD 2 d (by simp only [okK, List.all_eq_true] at hok; exact hok d hd))
  refine tab_get (xs := []) (k := .tup ds) (by ktr_units) N2 (by ktn_open) Tab0 (fun x hx => nomatch hx) lo' (hk2 _ F2.keep (N2.get (by ktn_open))) hok ?_
  intro tk3
  simp only [show atKey ([] : List (Dt × Addr × Value)) (.tup ds) = none from rfl, Option.map_none, Option.getD_none]
  k_steps
  unfold Held
  rename Fr g' L' _ _ => F3
  rename News g' L' _ _ => N3
  have hcl := fun nn => ClaimT.based (rl := rl) (news := nn) (hmade (rl ++ nn) (fun q hq => List.mem_append_left _ hq))
  refine hcl _ _ _ _ _ _ _ _ _ _ _ h₀ g' L' _ _ _ _ B' F3 N3 rfl X T D' (fun q hq => ⟨hold q (hrl q hq), (N q (.tail _ (.tail _ (hrl q hq)))).2.2, fun hm => ?_⟩) (by ktr_room) (by ktr_units) ?_
  · rcases tu_mem (env := envX cn cs L a ccd cl) rfl hm with z | z
    · exact (N q (.tail _ (.tail _ (hrl q hq)))).2.1 z
    · cases z
  intro v4 tl4 g4 h4 tk4 T4 B4 F4 N4e ne4 hb4 r4
  have N4 := news_swap N4e
  change News _ _ _ (_ :: _ :: _ :: _ :: tl4) at N4
  clear F3 N3 N4e X' T' B' D' hcl
  have X4 := X.keeps B4.stays
  have T4' := T.keeps B4.stays
  (try k_lift B4)
  have hold4 : Holds g4 rest := fun q hq => T4.other _ _ (hold q hq) fun hm => by
    rcases tu_mem (env := envX cn cs L a ccd cl) rfl hm with z | z
    · exact (N q (.tail _ (.tail _ hq))).2.1 z
    · cases z
  k_steps
  rename Fr g4 L' _ _ => F5
  rename News g4 L' _ _ => N5
  have ne5 : ∀ p ∈ tl4, p.1 ≠ kd := fun p hp => ne4 (kd, KO) (.tail _ (.head _)) p hp
  refine tab_set (xs := []) (k := .tup ds) (by ktr_units) F5 N5 (.tail (by (try dsimp only); k_ne) (.head (forall_in_cons (Nat.ne_of_lt lq.1) (forall_in_cons (Nat.ne_of_lt lq.2) ne5)))) Tab0 (fun x hx => nomatch hx)
    (.tup ⟨_, N5.get (by ktn_open), rfl, _, rfl⟩ (rd_h_all (rl := rl) (fun q hq => F5.keep _ _ (hb4 q hq)) 2 da1 fun d hd => okK_okD 2 d (by simp only [okK, List.all_eq_true] at hok; exact hok d hd))) hok (Nat.zero_le _) ?_
  clear F5 N5
  intro h6 KO6 tk6 F6 N6 Tab6
  k_steps
  rename Fr g4 L' _ _ => F9
  rename News g4 L' _ _ => N9
  refine ⟨g4, L', _, _, T4, F9, N9, fun h₀' T₀ kF kN kB => ?_⟩
  obtain ⟨kF2, kN2⟩ := turn_back T₀ kF kN
  kts_tail
  have hfin := fin_load (env := envX cn cs L a ccd cl) (rest := rest) rfl N GS T4 F9 N9 kN2 (fun q hq => .tail _ (.tail _ hq)) (fun q hq hm => by
    have z := hap q hq
    rcases List.mem_cons.mp hm with e | hm
    · exact z.1 e
    · exact z.2 (List.mem_singleton.mp hm))
  exact hmiss v4 tl4 D1 ys kd KO6 _ _ _ _ _ lo' lq kF2 hfin.1 hfin.2 (fun p hp => ⟨ne4 (fa, _) (.tail _ (.tail _ (.head _))) p hp, ne4 (fd, _) (.tail _ (.tail _ (.tail _ (.head _)))) p hp, ne4 (kd, _) (.tail _ (.head _)) p hp⟩) Tab6 da1 r4

end Mine
end
section
open PySem PySem.W PyProof.Rows
namespace Mine
theorem off_LoadD : True := by w_top off; exact True.intro
local macro_rules | `(tactic| walk_at "no such key 0") => `(tactic| fail)
open scoped Classical
set_option maxRecDepth 100000
set_option linter.unusedVariables false
set_option linter.unusedSimpArgs false
set_option maxHeartbeats 8000000
local macro_rules | `(tactic| k_room) => `(tactic| ktr_room)
local macro_rules | `(tactic| k_units) => `(tactic| ktr_units)
local macro_rules | `(tactic| units_room) => `(tactic| ktr_units)
local macro_rules | `(tactic| ktn_open) => `(tactic| (repeat (first | exact List.Mem.head _ | refine List.Mem.tail _ ?_)))
local macro_rules | `(tactic| walk_at "call ref cons nil") => `(tactic| (k_here; (with_reducible show wpAny _ _ (call (Value.ref 109) [_]) _ _ _); refine held_ ?_))
theorem load_new_tup (hmk : Marks hd.heap_39 PySem.Challenge.rw_vy0039_01) {prog : Program} {w : World} {p : Program} {loose : List Str} {mean : ExcName → Option Value} {mg mb : Str → Option Value} {fa fd kd : Addr} {hh : Int} {t0 : Tok} {n : Nat} {KO : Obj} {xs : List (Dt × Addr × Value)} {ra : Addr} {vs : List Value} {nk : Nat} {rl rest : Led} {ds : List Dt} {RR : Value → Led → Prop}
  (hra : (ra, ({ cls := .type "tuple", data := .seq vs.toArray nk } : Obj)) ∈ rl) (da1 : DAll rl vs ds) (hok : okK 3 (.tup ds) = true) (hrl : ∀ q ∈ rl, q ∈ rest) (hap : ∀ q ∈ rest, q.1 ≠ fa ∧ q.1 ≠ fd) (hne1 : @Ne Nat fa fd)
  (hmade : ∀ news, (∀ q ∈ rl, q ∈ news) → ClaimT prog w (hd.heap_39 w.params) p loose mean mg mb 109 [.ref ra] news RR)
  (dp un : Nat) (gd : Option (List Code)) (cn : Str) (cs : Scope) (a : Addr) (ccd : Value) (cl : List (Str × Addr)) (A₀ : Around) (h₀ : Heap) (L : Addr) (m : Str → Option Value) (s : Shared) (Q E : Value → Shared → Prop) :
  Below A₀ h₀ [] h₀ → Fr h₀ L s.heap m → (hd.heap_39 w.params).In h₀ → News h₀ L s.heap ((fa, instObj 130 fd) :: (fd, dictOf [] 0) :: rest) → Top p loose mean mg mb h₀ → cs.kind = .function → dp + 40 < recursionLimit → un + 320 < cLine →
  (∀ v tl kd KO' hh t0 n h' tk', (kd == sysModules) = false → @LT.lt Nat _ fa kd ∧ @LT.lt Nat _ fd kd → Fr h₀ L h' m → News h₀ L h' (((kd, KO') :: (fa, instObj 130 fd) :: (fd, dictOf [⟨hh, .str "data" t0, .ref kd⟩] n) :: tl) ++ rest) →
    (∀ q ∈ rest, ∀ p ∈ ((kd, KO') :: (fa, instObj 130 fd) :: (fd, dictOf [⟨hh, .str "data" t0, .ref kd⟩] n) :: tl : Led), p.1 ≠ q.1) →
    (∀ p ∈ tl, @Ne Nat p.1 fa ∧ @Ne Nat p.1 fd ∧ @Ne Nat p.1 kd) → TabObj prog w KO' (storedH [] (.tup ds) ra v) → RR v tl → Q v { s with heap := h', toks := tk' }) →
  wpAny (model prog w) (ktrTop dp un gd cn cs L a ccd cl []) (call (.ref 127) [.ref fa, .ref ra]) Q E s := by
  revert hmk
  k_fill
  intro _ B F X N T hk hd hu hmiss
  have N0 : News h₀ L s.heap [(fa, instObj 130 fd), (fd, dictOf [] 0)] := fun p hp => N p (by
    rcases List.mem_cons.mp hp with rfl | hp
    · exact .head _
    · cases List.mem_singleton.mp hp
      exact .tail _ (.head _))
  have D0 : KtsDicts (([] : List Env).filterMap (·.frame)) h₀ := ktsDicts_nil
  refine wpAny_call ?_
  k_dflt (refine' code_defT ?k1 ?k2 ?k3 N0 ?k5 D0 ?kA ?kF ?kK ?k6 ?k7 ?k8 ?k9 ?kB ?_ ?c2 ?c3 ?c4 ?c5; (case kA => exact rfl); (case kF => exact rfl); (case kK => assumption); (case k1 => k_asm); (case k2 => k_asm); (case k3 => k_asm); (case k5 => k_asm); (case k6 => k_is); (case k7 => k_is); (case k8 => ktr_room); (case k9 => exact BindsTo.of_eq rfl); (case c5 => decide); (case kB => exact locs rfl); (case c2 => exact rfl); (case c3 => exact rfl); (case c4 => exact rfl); k_whole; intro g' L' h' FG' F' N' B' X' T' GS D'; (try dsimp only); (try k_lift B'); (try k_fold))
  have hold : Holds g' rest := fun q hq => GS _ _ (N q (.tail _ (.tail _ hq))).1 (by
    have z := hap q hq
    intro hm
    rcases List.mem_cons.mp hm with e | hm
    · exact z.1 e
    · exact z.2 (List.mem_singleton.mp hm))
  k_steps
  rename_i kd hq KO lo' hsd f1 hi1 f2 lq h0 Fq Nq
  have Tab0 : TabObj prog w KO [] := TabObj.nil hsd
  refine call_tuple_tup (items := vs.toArray) ⟨_, Fq.keep _ _ (hold _ (hrl _ hra)), rfl, nk, rfl⟩ ?_
  k_steps
  rename Fr g' L' _ _ => F2
  rename News g' L' _ _ => N2
  have hk2 : ∀ h, (∀ b o, g'.get? b = some o → h.get? b = some o) → Rd h (.ref ra) (.tup ds) := fun h hk =>
    .tup ⟨_, hk _ _ (hold _ (hrl _ hra)), rfl, _, rfl⟩ (rd_h_all (rl := rl) (fun q hq => hk _ _ (hold q (hrl q hq))) 2 da1 fun d hd => okK_okD 2 d (by simp only [okK, List.all_eq_true] at hok; exact hok d hd))
  refine tab_get (xs := []) (k := .tup ds) (by ktr_units) N2 (by ktn_open) Tab0 (fun x hx => nomatch hx) lo' (hk2 _ F2.keep) hok ?_
  intro tk3
  simp only [show atKey ([] : List (Dt × Addr × Value)) (.tup ds) = none from rfl, Option.map_none, Option.getD_none]
  k_steps
  unfold Held
  rename Fr g' L' _ _ => F3
  rename News g' L' _ _ => N3
  have hcl := fun nn => ClaimT.based (rl := rl) (news := nn) (hmade (rl ++ nn) (fun q hq => List.mem_append_left _ hq))
  refine hcl _ _ _ _ _ _ _ _ _ _ _ h₀ g' L' _ _ _ _ B' F3 N3 rfl X T D' (fun q hq => ⟨hold q (hrl q hq), (N q (.tail _ (.tail _ (hrl q hq)))).2.2, fun hm => ?_⟩) (by ktr_room) (by ktr_units) ?_
  · rcases tu_mem (env := envX cn cs L a ccd cl) rfl hm with z | z
    · exact (N q (.tail _ (.tail _ (hrl q hq)))).2.1 z
    · cases z
  intro v4 tl4 g4 h4 tk4 T4 B4 F4 N4e ne4 hb4 r4
  have N4 := news_swap N4e
  change News _ _ _ (_ :: _ :: _ :: tl4) at N4
  clear F3 N3 N4e X' T' B' D' hcl
  have X4 := X.keeps B4.stays
  have T4' := T.keeps B4.stays
  (try k_lift B4)
  have hold4 : Holds g4 rest := fun q hq => T4.other _ _ (hold q hq) fun hm => by
    rcases tu_mem (env := envX cn cs L a ccd cl) rfl hm with z | z
    · exact (N q (.tail _ (.tail _ hq))).2.1 z
    · cases z
  k_steps
  rename Fr g4 L' _ _ => F5
  rename News g4 L' _ _ => N5
  have ne5 : ∀ p ∈ tl4, p.1 ≠ kd := fun p hp => ne4 (kd, KO) (.head _) p hp
  refine tab_set (xs := []) (k := .tup ds) (by ktr_units) F5 N5 (.head (forall_in_cons (Nat.ne_of_lt lq.1) (forall_in_cons (Nat.ne_of_lt lq.2) ne5))) Tab0 (fun x hx => nomatch hx)
    (.tup ⟨_, F5.keep _ _ (hb4 _ hra), rfl, _, rfl⟩ (rd_h_all (rl := rl) (fun q hq => F5.keep _ _ (hb4 q hq)) 2 da1 fun d hd => okK_okD 2 d (by simp only [okK, List.all_eq_true] at hok; exact hok d hd))) hok (Nat.zero_le _) ?_
  clear F5 N5
  intro h6 KO6 tk6 F6 N6 Tab6
  k_steps
  rename Fr g4 L' _ _ => F9
  rename News g4 L' _ _ => N9
  refine ⟨g4, L', _, _, T4, F9, N9, fun h₀' T₀ kF kN kB => ?_⟩
  obtain ⟨kF2, kN2⟩ := turn_back T₀ kF kN
  kts_tail
  have hfin := fin_load (env := envX cn cs L a ccd cl) (rest := rest) rfl N GS T4 F9 N9 kN2 (fun q hq => .tail _ (.tail _ hq)) (fun q hq hm => by
    have z := hap q hq
    rcases List.mem_cons.mp hm with e | hm
    · exact z.1 e
    · exact z.2 (List.mem_singleton.mp hm))
  exact hmiss v4 tl4 kd KO6 _ _ _ _ _ lo' lq kF2 hfin.1 hfin.2 (fun p hp => ⟨ne4 (fa, _) (.tail _ (.head _)) p hp, ne4 (fd, _) (.tail _ (.tail _ (.head _))) p hp, ne4 (kd, _) (.head _) p hp⟩) Tab6 r4

end Mine
end
section
open PySem PySem.W PyProof.Rows
namespace Mine
theorem off_Kl : True := by w_top off; exact True.intro
local macro_rules | `(tactic| walk_at "no such key 0") => `(tactic| fail)
set_option maxRecDepth 100000
set_option linter.unusedVariables false
set_option linter.unusedSimpArgs false
set_option maxHeartbeats 8000000
local macro_rules | `(tactic| k_room) => `(tactic| ktr_room)
local macro_rules | `(tactic| k_units) => `(tactic| ktr_units)
local macro_rules | `(tactic| units_room) => `(tactic| ktr_units)
local macro_rules | `(tactic| ktn_open) => `(tactic| (repeat (first | exact List.Mem.head _ | refine List.Mem.tail _ ?_)))
local macro_rules | `(tactic| walk_at "getAttr ref") => `(tactic| (k_here; (with_reducible show wpAny _ _ (getAttr (Value.ref _) ("data" : Str) _) _ _ _); k_dflt (refine' get_own ?k1 ?k2 ?k3 ?k4 ?k5 ?k6 ?k7 ?k8 ?k9 ?_; (case k1 => k_asm); (case k2 => k_asm); (case k3 => k_inst); (case k8 => assumption); (case k4 => k_is); (case k5 => k_is); (case k6 => k_is); (case k7 => k_is); (case k9 => k_handed); k_whole)))
local macro_rules | `(tactic| walk_at "compareOp Eq bytes str") => `(tactic| (k_here; refine eq_bytes_str ?_))
/-- the contract of a call as code, that makes nothing -/
abbrev KClaim (rd ru : Nat) (prog : Program) (w : World) (K : Frag) (p : Program) (loose : List Str) (mean : ExcName → Option Value) (mg mb : Str → Option Value) (f : Addr) (vs : List Value) (news : Led) (V : Value → Prop) : Prop :=
  ∀ (dp un : Nat) (gd : Option (List Code)) (cn : Str) (cs : Scope) (a : Addr) (ccd : Value) (cl : List (Str × Addr)) (outer : List Env) (A₀ : Around) (base h₀ : Heap) (L : Addr) (m : Str → Option Value) (s : Shared) (R : Result → Shared → Prop),
    Below A₀ base outer h₀ → Fr h₀ L s.heap m → K.In h₀ → News h₀ L s.heap news → Top p loose mean mg mb h₀ → cs.kind = .function →
    dp + rd < recursionLimit → un + ru < cLine →
    (∀ v h' tk', Fr h₀ L h' m → News h₀ L h' news → V v → R (.ok (.ret v)) { s with heap := h', toks := tk' }) →
    codeAny (model prog w) (ktrTop dp un gd cn cs L a ccd cl outer) (.call (.ref f) ⟨vs, []⟩) R s
theorem klass_bytes (hmk : Marks hd.heap_39 PySem.Challenge.rw_vy0039_01) {prog : Program} {w : World} {p : Program} {loose : List Str} {mean : ExcName → Option Value} {mg mb : Str → Option Value} {x dx : Addr} {es : List DictEntry} {n : Nat} {b : Array UInt8} {u : Tok} (hdv : getL "data" es = some (some (.bytes b u))) {news : Led} (hs : ∀ p ∈ ([(x, instObj 109 dx), (dx, dictOf es n)] : Led), p ∈ news) :
  KClaim 30 300 prog w (hd.heap_39 w.params) p loose mean mg mb 105 [.ref x] news (fun v => v = .none) := by
  intro dp un gd cn cs a ccd cl outer A₀ base h₀ L m s R
  revert hmk
  k_fill
  intro _ B F X N T hk hd hu hret
  have N0 : News h₀ L s.heap [(x, instObj 109 dx), (dx, dictOf es n)] := fun p hp => N p (hs p hp)
  k_dflt (refine' code_defG ?k1 ?k2 ?k3 N0 ?k5 ?kA ?kF ?kK ?k6 ?k7 ?k8 ?k9 ?kB ?_ ?c2 ?c3 ?c4 ?c5; (case kA => exact rfl); (case kF => exact rfl); (case kK => assumption); (case k1 => k_asm); (case k2 => k_asm); (case k3 => k_asm); (case k5 => k_asm); (case k6 => k_is); (case k7 => k_is); (case k8 => ktr_room); (case k9 => exact BindsTo.of_eq rfl); (case c5 => decide); (case kB => exact locs rfl); (case c2 => exact rfl); (case c3 => exact rfl); (case c4 => exact rfl); k_whole; intro g' L' h' FG' F' N' B' X' T' GS; (try dsimp only); (try k_lift B'); (try k_fold))
  k_steps
  rename Fr h₀ L _ _ => kF1
  rename News h₀ L _ _ => kN1
  rename Fr g' L' _ _ => F1'
  exact hret _ _ _ kF1 (fin_def N hs GS F1' kN1 (fun _ h => h)) rfl
theorem klass_str (hmk : Marks hd.heap_39 PySem.Challenge.rw_vy0039_01) {prog : Program} {w : World} {p : Program} {loose : List Str} {mean : ExcName → Option Value} {mg mb : Str → Option Value} {x dx : Addr} {es : List DictEntry} {n : Nat} {b : Str} {u : Tok} (hdv : getL "data" es = some (some (.str b u))) {news : Led} (hs : ∀ p ∈ ([(x, instObj 109 dx), (dx, dictOf es n)] : Led), p ∈ news) :
  KClaim 30 300 prog w (hd.heap_39 w.params) p loose mean mg mb 105 [.ref x] news (fun v => v = .none) := by
  intro dp un gd cn cs a ccd cl outer A₀ base h₀ L m s R
  revert hmk
  k_fill
  intro _ B F X N T hk hd hu hret
  have N0 : News h₀ L s.heap [(x, instObj 109 dx), (dx, dictOf es n)] := fun p hp => N p (hs p hp)
  k_dflt (refine' code_defG ?k1 ?k2 ?k3 N0 ?k5 ?kA ?kF ?kK ?k6 ?k7 ?k8 ?k9 ?kB ?_ ?c2 ?c3 ?c4 ?c5; (case kA => exact rfl); (case kF => exact rfl); (case kK => assumption); (case k1 => k_asm); (case k2 => k_asm); (case k3 => k_asm); (case k5 => k_asm); (case k6 => k_is); (case k7 => k_is); (case k8 => ktr_room); (case k9 => exact BindsTo.of_eq rfl); (case c5 => decide); (case kB => exact locs rfl); (case c2 => exact rfl); (case c3 => exact rfl); (case c4 => exact rfl); k_whole; intro g' L' h' FG' F' N' B' X' T' GS; (try dsimp only); (try k_lift B'); (try k_fold))
  k_steps
  rename Fr h₀ L _ _ => kF1
  rename News h₀ L _ _ => kN1
  rename Fr g' L' _ _ => F1'
  exact hret _ _ _ kF1 (fin_def N hs GS F1' kN1 (fun _ h => h)) rfl
theorem klass_tup (hmk : Marks hd.heap_39 PySem.Challenge.rw_vy0039_01) {prog : Program} {w : World} {p : Program} {loose : List Str} {mean : ExcName → Option Value} {mg mb : Str → Option Value} {x dx : Addr} {es : List DictEntry} {n : Nat} {r : Addr} {v0 v1 : Value} {k : Nat} (hdv : getL "data" es = some (some (.ref r))) {news : Led} (hs : ∀ p ∈ ([(x, instObj 109 dx), (dx, dictOf es n), (r, ({ cls := .type "tuple", data := .seq #[v0, v1] k } : Obj))] : Led), p ∈ news) :
  KClaim 30 300 prog w (hd.heap_39 w.params) p loose mean mg mb 105 [.ref x] news (fun v => v = v1) := by
  intro dp un gd cn cs a ccd cl outer A₀ base h₀ L m s R
  revert hmk
  k_fill
  intro _ B F X N T hk hd hu hret
  have N0 : News h₀ L s.heap [(x, instObj 109 dx), (dx, dictOf es n), (r, ({ cls := .type "tuple", data := .seq #[v0, v1] k } : Obj))] := fun p hp => N p (hs p hp)
  k_dflt (refine' code_defG ?k1 ?k2 ?k3 N0 ?k5 ?kA ?kF ?kK ?k6 ?k7 ?k8 ?k9 ?kB ?_ ?c2 ?c3 ?c4 ?c5; (case kA => exact rfl); (case kF => exact rfl); (case kK => assumption); (case k1 => k_asm); (case k2 => k_asm); (case k3 => k_asm); (case k5 => k_asm); (case k6 => k_is); (case k7 => k_is); (case k8 => ktr_room); (case k9 => exact BindsTo.of_eq rfl); (case c5 => decide); (case kB => exact locs rfl); (case c2 => exact rfl); (case c3 => exact rfl); (case c4 => exact rfl); k_whole; intro g' L' h' FG' F' N' B' X' T' GS; (try dsimp only); (try k_lift B'); (try k_fold))
  k_steps
  rename Fr h₀ L _ _ => kF1
  rename News h₀ L _ _ => kN1
  rename Fr g' L' _ _ => F1'
  exact hret _ _ _ kF1 (fin_def N hs GS F1' kN1 (fun _ h => h)) rfl
theorem klass_w (hmk : Marks hd.heap_39 PySem.Challenge.rw_vy0039_01) {prog : Program} {w : World} {p : Program} {loose : List Str} {mean : ExcName → Option Value} {mg mb : Str → Option Value} {x dx : Addr} {es : List DictEntry} {n : Nat} {r : Addr} {u : Tok} {v1 : Value} {k : Nat} (hdv : getL "data" es = some (some (.ref r))) {news : Led} (hs : ∀ p ∈ ([(x, instObj 109 dx), (dx, dictOf es n), (r, listOf #[.str "w" u, v1] k)] : Led), p ∈ news) :
  KClaim 30 300 prog w (hd.heap_39 w.params) p loose mean mg mb 105 [.ref x] news (fun v => v = .none) := by
  intro dp un gd cn cs a ccd cl outer A₀ base h₀ L m s R
  revert hmk
  k_fill
  intro _ B F X N T hk hd hu hret
  have N0 : News h₀ L s.heap [(x, instObj 109 dx), (dx, dictOf es n), (r, listOf #[.str "w" u, v1] k)] := fun p hp => N p (hs p hp)
  k_dflt (refine' code_defG ?k1 ?k2 ?k3 N0 ?k5 ?kA ?kF ?kK ?k6 ?k7 ?k8 ?k9 ?kB ?_ ?c2 ?c3 ?c4 ?c5; (case kA => exact rfl); (case kF => exact rfl); (case kK => assumption); (case k1 => k_asm); (case k2 => k_asm); (case k3 => k_asm); (case k5 => k_asm); (case k6 => k_is); (case k7 => k_is); (case k8 => ktr_room); (case k9 => exact BindsTo.of_eq rfl); (case c5 => decide); (case kB => exact locs rfl); (case c2 => exact rfl); (case c3 => exact rfl); (case c4 => exact rfl); k_whole; intro g' L' h' FG' F' N' B' X' T' GS; (try dsimp only); (try k_lift B'); (try k_fold))
  k_steps
  rename Fr h₀ L _ _ => kF1
  rename News h₀ L _ _ => kN1
  rename Fr g' L' _ _ => F1'
  exact hret _ _ _ kF1 (fin_def N hs GS F1' kN1 (fun _ h => h)) rfl
theorem klass_n (hmk : Marks hd.heap_39 PySem.Challenge.rw_vy0039_01) {prog : Program} {w : World} {p : Program} {loose : List Str} {mean : ExcName → Option Value} {mg mb : Str → Option Value} {x dx : Addr} {es : List DictEntry} {n : Nat} {r : Addr} {u : Tok} {v1 : Value} {k : Nat} (hdv : getL "data" es = some (some (.ref r))) {news : Led} (hs : ∀ p ∈ ([(x, instObj 109 dx), (dx, dictOf es n), (r, listOf #[.str "n" u, v1] k)] : Led), p ∈ news) :
  KClaim 30 300 prog w (hd.heap_39 w.params) p loose mean mg mb 105 [.ref x] news (fun v => v = .none) := by
  intro dp un gd cn cs a ccd cl outer A₀ base h₀ L m s R
  revert hmk
  k_fill
  intro _ B F X N T hk hd hu hret
  have N0 : News h₀ L s.heap [(x, instObj 109 dx), (dx, dictOf es n), (r, listOf #[.str "n" u, v1] k)] := fun p hp => N p (hs p hp)
  k_dflt (refine' code_defG ?k1 ?k2 ?k3 N0 ?k5 ?kA ?kF ?kK ?k6 ?k7 ?k8 ?k9 ?kB ?_ ?c2 ?c3 ?c4 ?c5; (case kA => exact rfl); (case kF => exact rfl); (case kK => assumption); (case k1 => k_asm); (case k2 => k_asm); (case k3 => k_asm); (case k5 => k_asm); (case k6 => k_is); (case k7 => k_is); (case k8 => ktr_room); (case k9 => exact BindsTo.of_eq rfl); (case c5 => decide); (case kB => exact locs rfl); (case c2 => exact rfl); (case c3 => exact rfl); (case c4 => exact rfl); k_whole; intro g' L' h' FG' F' N' B' X' T' GS; (try dsimp only); (try k_lift B'); (try k_fold))
  k_steps
  rename Fr h₀ L _ _ => kF1
  rename News h₀ L _ _ => kN1
  rename Fr g' L' _ _ => F1'
  exact hret _ _ _ kF1 (fin_def N hs GS F1' kN1 (fun _ h => h)) rfl
theorem klass_one (hmk : Marks hd.heap_39 PySem.Challenge.rw_vy0039_01) {prog : Program} {w : World} {p : Program} {loose : List Str} {mean : ExcName → Option Value} {mg mb : Str → Option Value} {x dx : Addr} {es : List DictEntry} {n : Nat} {r : Addr} {b : Array UInt8} {u : Tok} {k : Nat} (hdv : getL "data" es = some (some (.ref r))) {news : Led} (hs : ∀ p ∈ ([(x, instObj 109 dx), (dx, dictOf es n), (r, listOf #[.bytes b u] k)] : Led), p ∈ news) :
  KClaim 30 300 prog w (hd.heap_39 w.params) p loose mean mg mb 105 [.ref x] news (fun v => v = .none) := by
  intro dp un gd cn cs a ccd cl outer A₀ base h₀ L m s R
  revert hmk
  k_fill
  intro _ B F X N T hk hd hu hret
  have N0 : News h₀ L s.heap [(x, instObj 109 dx), (dx, dictOf es n), (r, listOf #[.bytes b u] k)] := fun p hp => N p (hs p hp)
  k_dflt (refine' code_defG ?k1 ?k2 ?k3 N0 ?k5 ?kA ?kF ?kK ?k6 ?k7 ?k8 ?k9 ?kB ?_ ?c2 ?c3 ?c4 ?c5; (case kA => exact rfl); (case kF => exact rfl); (case kK => assumption); (case k1 => k_asm); (case k2 => k_asm); (case k3 => k_asm); (case k5 => k_asm); (case k6 => k_is); (case k7 => k_is); (case k8 => ktr_room); (case k9 => exact BindsTo.of_eq rfl); (case c5 => decide); (case kB => exact locs rfl); (case c2 => exact rfl); (case c3 => exact rfl); (case c4 => exact rfl); k_whole; intro g' L' h' FG' F' N' B' X' T' GS; (try dsimp only); (try k_lift B'); (try k_fold))
  k_steps
  rename Fr h₀ L _ _ => kF1
  rename News h₀ L _ _ => kN1
  rename Fr g' L' _ _ => F1'
  exact hret _ _ _ kF1 (fin_def N hs GS F1' kN1 (fun _ h => h)) rfl
theorem klass_m (hmk : Marks hd.heap_39 PySem.Challenge.rw_vy0039_01) {prog : Program} {w : World} {p : Program} {loose : List Str} {mean : ExcName → Option Value} {mg mb : Str → Option Value} {x dx : Addr} {es : List DictEntry} {n : Nat} {r q : Addr} {u : Tok} {v0 v1 v2 : Value} {k k2 : Nat} (hdv : getL "data" es = some (some (.ref r))) {news : Led} (hs : ∀ p ∈ ([(x, instObj 109 dx), (dx, dictOf es n), (r, listOf #[.str "m" u, .ref q] k), (q, ({ cls := .type "tuple", data := .seq #[v0, v1, v2] k2 } : Obj))] : Led), p ∈ news) :
  KClaim 30 300 prog w (hd.heap_39 w.params) p loose mean mg mb 105 [.ref x] news (fun v => v = v2) := by
  intro dp un gd cn cs a ccd cl outer A₀ base h₀ L m s R
  revert hmk
  k_fill
  intro _ B F X N T hk hd hu hret
  have N0 : News h₀ L s.heap [(x, instObj 109 dx), (dx, dictOf es n), (r, listOf #[.str "m" u, .ref q] k), (q, ({ cls := .type "tuple", data := .seq #[v0, v1, v2] k2 } : Obj))] := fun p hp => N p (hs p hp)
  k_dflt (refine' code_defG ?k1 ?k2 ?k3 N0 ?k5 ?kA ?kF ?kK ?k6 ?k7 ?k8 ?k9 ?kB ?_ ?c2 ?c3 ?c4 ?c5; (case kA => exact rfl); (case kF => exact rfl); (case kK => assumption); (case k1 => k_asm); (case k2 => k_asm); (case k3 => k_asm); (case k5 => k_asm); (case k6 => k_is); (case k7 => k_is); (case k8 => ktr_room); (case k9 => exact BindsTo.of_eq rfl); (case c5 => decide); (case kB => exact locs rfl); (case c2 => exact rfl); (case c3 => exact rfl); (case c4 => exact rfl); k_whole; intro g' L' h' FG' F' N' B' X' T' GS; (try dsimp only); (try k_lift B'); (try k_fold))
  k_steps
  rename Fr h₀ L _ _ => kF1
  rename News h₀ L _ _ => kN1
  rename Fr g' L' _ _ => F1'
  exact hret _ _ _ kF1 (fin_def N hs GS F1' kN1 (fun _ h => h)) rfl

end Mine
end
section
open PySem PySem.W PyProof.Rows
namespace Mine
set_option maxRecDepth 100000
set_option linter.unusedVariables false
theorem KClaim.mono {rd ru : Nat} {prog : Program} {w : World} {K : Frag} {p : Program} {loose : List Str} {mean : ExcName → Option Value} {mg mb : Str → Option Value} {f : Addr} {vs : List Value} {news : Led} {V V' : Value → Prop}
    (c : KClaim rd ru prog w K p loose mean mg mb f vs news V) (h : ∀ v, V v → V' v) : KClaim rd ru prog w K p loose mean mg mb f vs news V' :=
  fun dp un gd cn cs a ccd cl outer A₀ base h₀ L m s R B F X N T hk hd hu hret => c dp un gd cn cs a ccd cl outer A₀ base h₀ L m s R B F X N T hk hd hu fun v h' tk' F' N' hv => hret v h' tk' F' N' (h v hv)
/-- x.klass, by the form of what x was made of -/
theorem klass_of (hmk : Marks hd.heap_39 PySem.Challenge.rw_vy0039_01) {prog : Program} {w : World} {p : Program} {loose : List Str} {mean : ExcName → Option Value} {mg mb : Str → Option Value}
    {k : Nat} (hk : k < 13) {o : List UInt8} {b : Str} {x dx : Addr} {es : List DictEntry} {n : Nat} {dv : Value} {news : Led} (h1 : (x, instObj 109 dx) ∈ news) (h2 : (dx, dictOf es n) ∈ news) (hdv : getL "data" es = some (some dv)) (hdd : DIn news dv (dataOf k o b)) :
    KClaim 30 300 prog w (hd.heap_39 w.params) p loose mean mg mb 105 [.ref x] news (fun v => DIn news v (klsOf k b)) := by
  have hks : k = 0 ∨ k = 1 ∨ k = 2 ∨ k = 3 ∨ k = 4 ∨ k = 5 ∨ k = 6 ∨ k = 7 ∨ k = 8 ∨ k = 9 ∨ k = 10 ∨ k = 11 ∨ k = 12 := by omega
  rcases hks with rfl | rfl | rfl | rfl | rfl | rfl | rfl | rfl | rfl | rfl | rfl | rfl | rfl
  · obtain ⟨t, rfl⟩ := DIn.bytes_inv (show DIn news dv (.bytes o) from hdd)
    exact (klass_bytes hmk hdv (forall_in_cons h1 (forall_in_cons h2 forall_in_nil))).mono fun v e => by subst e; exact .none
  · obtain ⟨t, rfl⟩ := DIn.str_inv (show DIn news dv (.str (txt (plainOf o))) from hdd)
    exact (klass_str hmk hdv (forall_in_cons h1 (forall_in_cons h2 forall_in_nil))).mono fun v e => by subst e; exact .none
  · obtain ⟨r, vs, n1, rfl, hm, ha⟩ := DIn.tup_inv (show DIn news dv (.tup [.bytes o, .str "klass"]) from hdd)
    obtain ⟨v0, v1, rfl, g0, g1⟩ := ha.two
    exact (klass_tup hmk hdv (forall_in_cons h1 (forall_in_cons h2 (forall_in_cons hm forall_in_nil)))).mono fun v e => by subst e; exact g1
  · obtain ⟨r, vs, n1, rfl, hm, ha⟩ := DIn.lst_inv (show DIn news dv (.lst [.str "w", .tup [.bytes o]]) from hdd)
    obtain ⟨v0, v1, rfl, g0, g1⟩ := ha.two
    obtain ⟨t, rfl⟩ := g0.str_inv
    exact (klass_w hmk hdv (forall_in_cons h1 (forall_in_cons h2 (forall_in_cons hm forall_in_nil)))).mono fun v e => by subst e; exact .none
  · obtain ⟨r, vs, n1, rfl, hm, ha⟩ := DIn.lst_inv (show DIn news dv (.lst [.str "w", .tup [.bytes o, .str b]]) from hdd)
    obtain ⟨v0, v1, rfl, g0, g1⟩ := ha.two
    obtain ⟨t, rfl⟩ := g0.str_inv
    exact (klass_w hmk hdv (forall_in_cons h1 (forall_in_cons h2 (forall_in_cons hm forall_in_nil)))).mono fun v e => by subst e; exact .none
  · obtain ⟨r, vs, n1, rfl, hm, ha⟩ := DIn.lst_inv (show DIn news dv (.lst [.bytes o]) from hdd)
    obtain ⟨v0, rfl, g0⟩ := ha.one
    obtain ⟨t, rfl⟩ := g0.bytes_inv
    exact (klass_one hmk hdv (forall_in_cons h1 (forall_in_cons h2 (forall_in_cons hm forall_in_nil)))).mono fun v e => by subst e; exact .none
  · obtain ⟨r, vs, n1, rfl, hm, ha⟩ := DIn.lst_inv (show DIn news dv (.lst [.str "n", .tup [.str b, .bytes o]]) from hdd)
    obtain ⟨v0, v1, rfl, g0, g1⟩ := ha.two
    obtain ⟨t, rfl⟩ := g0.str_inv
    exact (klass_n hmk hdv (forall_in_cons h1 (forall_in_cons h2 (forall_in_cons hm forall_in_nil)))).mono fun v e => by subst e; exact .none
  · obtain ⟨r, vs, n1, rfl, hm, ha⟩ := DIn.lst_inv (show DIn news dv (.lst [.str "m", .tup [.str b, .bytes o, .str "klass"]]) from hdd)
    obtain ⟨v0, v1, rfl, g0, g1⟩ := ha.two
    obtain ⟨t, rfl⟩ := g0.str_inv
    obtain ⟨q, ws, n2, rfl, hm2, ha2⟩ := g1.tup_inv
    obtain ⟨w0, w1, w2, rfl, i0, i1, i2⟩ := ha2.three
    exact (klass_m hmk hdv (forall_in_cons h1 (forall_in_cons h2 (forall_in_cons hm (forall_in_cons hm2 forall_in_nil))))).mono fun v e => by subst e; exact i2
  · obtain ⟨r, vs, n1, rfl, hm, ha⟩ := DIn.tup_inv (show DIn news dv (.tup [.str (txt (plainOf o)), .none]) from hdd)
    obtain ⟨v0, v1, rfl, g0, g1⟩ := ha.two
    exact (klass_tup hmk hdv (forall_in_cons h1 (forall_in_cons h2 (forall_in_cons hm forall_in_nil)))).mono fun v e => by subst e; exact g1
  · obtain ⟨r, vs, n1, rfl, hm, ha⟩ := DIn.lst_inv (show DIn news dv (.lst [.str "w", .tup [.str (txt (plainOf o))]]) from hdd)
    obtain ⟨v0, v1, rfl, g0, g1⟩ := ha.two
    obtain ⟨t, rfl⟩ := g0.str_inv
    exact (klass_w hmk hdv (forall_in_cons h1 (forall_in_cons h2 (forall_in_cons hm forall_in_nil)))).mono fun v e => by subst e; exact .none
  · obtain ⟨r, vs, n1, rfl, hm, ha⟩ := DIn.lst_inv (show DIn news dv (.lst [.str "n", .tup [.str b, .str (txt (plainOf o))]]) from hdd)
    obtain ⟨v0, v1, rfl, g0, g1⟩ := ha.two
    obtain ⟨t, rfl⟩ := g0.str_inv
    exact (klass_n hmk hdv (forall_in_cons h1 (forall_in_cons h2 (forall_in_cons hm forall_in_nil)))).mono fun v e => by subst e; exact .none
  · obtain ⟨r, vs, n1, rfl, hm, ha⟩ := DIn.lst_inv (show DIn news dv (.lst [.str "m", .tup [.str b, .str (txt (plainOf o)), .none]]) from hdd)
    obtain ⟨v0, v1, rfl, g0, g1⟩ := ha.two
    obtain ⟨t, rfl⟩ := g0.str_inv
    obtain ⟨q, ws, n2, rfl, hm2, ha2⟩ := g1.tup_inv
    obtain ⟨w0, w1, w2, rfl, i0, i1, i2⟩ := ha2.three
    exact (klass_m hmk hdv (forall_in_cons h1 (forall_in_cons h2 (forall_in_cons hm (forall_in_cons hm2 forall_in_nil))))).mono fun v e => by subst e; exact i2
  · obtain ⟨r, vs, n1, rfl, hm, ha⟩ := DIn.tup_inv (show DIn news dv (.tup [.bytes o, .tup [.str "shop", .str b]]) from hdd)
    obtain ⟨v0, v1, rfl, g0, g1⟩ := ha.two
    exact (klass_tup hmk hdv (forall_in_cons h1 (forall_in_cons h2 (forall_in_cons hm forall_in_nil)))).mono fun v e => by subst e; exact g1
/-- a PersistentReference is made, of any form -/
theorem made_of (hmk : Marks hd.heap_39 PySem.Challenge.rw_vy0039_01) {prog : Program} {w : World} {p : Program} {loose : List Str} {mean : ExcName → Option Value} {mg mb : Str → Option Value}
    {k : Nat} (hk : k < 13) {o : List UInt8} (ho : o.length = 8) {b : Str} {r : Value} {news rl : Led} (hrl : ∀ q ∈ rl, q ∈ news) (hr : DIn rl r (refD k o b)) :
    ClaimT prog w (hd.heap_39 w.params) p loose mean mg mb 109 [r] news (fun v tl => ∃ x dv, v = .ref x ∧ IsPR tl x dv (oidOf k o) (dbOf k b) (weakOf k) ∧ DIn (tl ++ rl) dv (dataOf k o b)) := by
  by_cases h12 : k < 12
  · refine fun dp un gd cn cs a ccd cl outer A₀ base h₀ L m s Q E B F X N T hk' XB TB D hd hu hret => pr_of_form hmk h12 ho (hr.mono hrl) dp un gd cn cs a ccd cl outer A₀ base h₀ L m s Q E B F X N T hk' XB TB D hd hu fun v tl h₀' h' tk' T' B' F' N' ne rr => hret v tl h₀' h' tk' T' B' F' N' ne ?_
    obtain ⟨x, rfl, hx⟩ := rr
    refine ⟨x, r, rfl, hx, ?_⟩
    have e : dataOf k o b = refD k o b := by
      have hks : k = 0 ∨ k = 1 ∨ k = 2 ∨ k = 3 ∨ k = 4 ∨ k = 5 ∨ k = 6 ∨ k = 7 ∨ k = 8 ∨ k = 9 ∨ k = 10 ∨ k = 11 := by omega
      rcases hks with rfl | rfl | rfl | rfl | rfl | rfl | rfl | rfl | rfl | rfl | rfl | rfl <;> rfl
    rw [e]
    exact hr.mono fun q hq => List.mem_append_right _ hq
  · obtain rfl : k = 12 := by omega
    obtain ⟨p0, ps, ho', hz⟩ := eight ho
    obtain ⟨r, vs, n1, rfl, hm, ha⟩ := DIn.tup_inv (show DIn rl r (.tup [.bytes o, .bad [.str "shop", .str b]]) from hr)
    obtain ⟨v0, v1, rfl, g0, g1⟩ := ha.two
    rw [ho'] at g0
    obtain ⟨t, rfl⟩ := g0.bytes_inv
    obtain ⟨q, qd, z, hh, tk, ws, n2, k2, rfl, hq, hqd, hz1, hws⟩ := g1.bad_inv
    obtain ⟨w0, w1, rfl, i0, i1⟩ := hws.two
    obtain ⟨t3, rfl⟩ := i0.str_inv
    obtain ⟨t4, rfl⟩ := i1.str_inv
    refine fun dp un gd cn cs a ccd cl outer A₀ base h₀ L m s Q E B F X N T hk' XB TB D hd hu hret => (init_12 hmk p0 ps hz b t tk t3 t4 r q qd z n1 k2 n2 hh news (forall_in_cons (hrl _ hm) (forall_in_cons (hrl _ hq) (forall_in_cons (hrl _ hqd) (forall_in_cons (hrl _ hz1) forall_in_nil))))).toT dp un gd cn cs a ccd cl outer A₀ base h₀ L m s Q E B F X N T hk' XB TB D hd hu fun v tl h₀' h' tk' T' B' F' N' ne rr => hret v tl h₀' h' tk' T' B' F' N' ne ?_
    obtain ⟨x, u, n4, rfl, hx, hu⟩ := rr
    refine ⟨x, .ref u, rfl, ?_, ?_⟩
    · show IsPR tl x (.ref u) o .none false
      rw [ho']; exact hx
    · show DIn (tl ++ rl) (.ref u) (.tup [.bytes o, .tup [.str "shop", .str b]])
      rw [ho']
      exact .tup (List.mem_append_left _ hu) (.cons (.bytes _ _) (.cons (.tup (List.mem_append_right _ hz1) (.cons (.str _ _) (.cons (.str _ _) .nil))) .nil))
end Mine
end
section
open PySem PySem.W PyProof.Rows
namespace Mine
set_option maxRecDepth 100000
/-- the items of tuple(r) -/
def keyOf : Dt → List Dt
  | .bytes b => (KBw.bInts b.toArray).map .int
  | .str x => (signs x).map .str
  | .tup ds => ds
  | .lst ds => ds
  | _ => []
def unInt : Dt → UInt8
  | .int i => UInt8.ofNat i.toNat
  | _ => 0
def unStr : Dt → List Nat
  | .str x => x.cps.toList
  | _ => []
def unkey : List Dt → Dt
  | [.bytes o] => .lst [.bytes o]
  | [.bytes o, y] => .tup [.bytes o, y]
  | [.str s, .none] => .tup [.str s, .none]
  | [.str s, .tup ds] => .lst [.str s, .tup ds]
  | .int i :: r => .bytes ((.int i :: r).map unInt)
  | .str s :: r => .str ⟨((.str s :: r).flatMap unStr).toArray⟩
  | _ => .none
theorem eight_list {o : List UInt8} (h : o.length = 8) : ∃ b0 b1 b2 b3 b4 b5 b6 b7, o = [b0, b1, b2, b3, b4, b5, b6, b7] := by
  match o, h with
  | [b0, b1, b2, b3, b4, b5, b6, b7], _ => exact ⟨b0, b1, b2, b3, b4, b5, b6, b7, rfl⟩
theorem unInt_of (c : UInt8) : unInt (.int (c.toNat : Int)) = c := by
  show UInt8.ofNat ((c.toNat : Int).toNat) = c
  simp
theorem unkey_key {k : Nat} (hk : k < 12) {o : List UInt8} (ho : o.length = 8) (b : Str) : unkey (keyOf (refD k o b)) = refD k o b := by
  obtain ⟨b0, b1, b2, b3, b4, b5, b6, b7, rfl⟩ := eight_list ho
  have hks : k = 0 ∨ k = 1 ∨ k = 2 ∨ k = 3 ∨ k = 4 ∨ k = 5 ∨ k = 6 ∨ k = 7 ∨ k = 8 ∨ k = 9 ∨ k = 10 ∨ k = 11 := by omega
  rcases hks with rfl | rfl | rfl | rfl | rfl | rfl | rfl | rfl | rfl | rfl | rfl | rfl
  · show Dt.bytes [unInt _, unInt _, unInt _, unInt _, unInt _, unInt _, unInt _, unInt _] = _
    simp only [unInt_of]
    rfl
  all_goals rfl
theorem key_inj {k k' : Nat} (hk : k < 12) (hk' : k' < 12) {o o' : List UInt8} (ho : o.length = 8) (ho' : o'.length = 8) (b b' : Str) : keyOf (refD k o b) = keyOf (refD k' o' b') ↔ refD k o b = refD k' o' b' :=
  ⟨fun h => by rw [← unkey_key hk ho b, h, unkey_key hk' ho' b'], fun h => by rw [h]⟩
theorem data_ref {k : Nat} (hk : k < 12) (o : List UInt8) (b : Str) : dataOf k o b = refD k o b := by
  have hks : k = 0 ∨ k = 1 ∨ k = 2 ∨ k = 3 ∨ k = 4 ∨ k = 5 ∨ k = 6 ∨ k = 7 ∨ k = 8 ∨ k = 9 ∨ k = 10 ∨ k = 11 := by omega
  rcases hks with rfl | rfl | rfl | rfl | rfl | rfl | rfl | rfl | rfl | rfl | rfl | rfl <;> rfl
theorem key_ok {k : Nat} (hk : k < 12) {o : List UInt8} (ho : o.length = 8) (b : Str) : okK 3 (.tup (keyOf (refD k o b))) = true := by
  obtain ⟨b0, b1, b2, b3, b4, b5, b6, b7, rfl⟩ := eight_list ho
  have hks : k = 0 ∨ k = 1 ∨ k = 2 ∨ k = 3 ∨ k = 4 ∨ k = 5 ∨ k = 6 ∨ k = 7 ∨ k = 8 ∨ k = 9 ∨ k = 10 ∨ k = 11 := by omega
  rcases hks with rfl | rfl | rfl | rfl | rfl | rfl | rfl | rfl | rfl | rfl | rfl | rfl <;> rfl
end Mine
end
section
open PySem PySem.W PyProof.Rows
namespace Mine
open scoped Classical
set_option maxRecDepth 100000
set_option linter.unusedVariables false
theorem DAll.length {news : Led} : ∀ {vs : List Value} {ds : List Dt}, DAll news vs ds → vs.length = ds.length
  | _, _, .nil => rfl
  | _, _, .cons _ r => by simp [DAll.length r]
/-- a reference as the argument of tuple: a tuple, or of a rule -/
theorem ref_kind {prog : Program} {w : World} {k : Nat} (hk : k < 12) {o : List UInt8} (ho : o.length = 8) {b : Str} {r : Value} {rest : Led} (hr : DIn rest r (refD k o b)) :
    (∃ ra vs nk, r = .ref ra ∧ (ra, ({ cls := .type "tuple", data := .seq vs.toArray nk } : Obj)) ∈ rest ∧ DAll rest vs (keyOf (refD k o b))) ∨ TupRule prog w r rest (keyOf (refD k o b)) := by
  have lst : ∀ ds, ds.length ≤ 8 → DIn rest r (.lst ds) → TupRule prog w r rest ds := fun ds hl h => by
    obtain ⟨a, vs, n1, rfl, hm, ha⟩ := h.lst_inv
    exact TupRule.lst hm ha (by rw [ha.length, sizeLine_eq]; exact Nat.le_trans hl (Nat.le_of_ble_eq_true rfl))
  have tup : ∀ ds, DIn rest r (.tup ds) → ∃ ra vs nk, r = .ref ra ∧ (ra, ({ cls := .type "tuple", data := .seq vs.toArray nk } : Obj)) ∈ rest ∧ DAll rest vs ds := fun ds h => h.tup_inv
  have hks : k = 0 ∨ k = 1 ∨ k = 2 ∨ k = 3 ∨ k = 4 ∨ k = 5 ∨ k = 6 ∨ k = 7 ∨ k = 8 ∨ k = 9 ∨ k = 10 ∨ k = 11 := by omega
  rcases hks with rfl | rfl | rfl | rfl | rfl | rfl | rfl | rfl | rfl | rfl | rfl | rfl
  · obtain ⟨t, rfl⟩ := DIn.bytes_inv (show DIn rest r (.bytes o) from hr)
    exact .inr (TupRule.bytes (by rw [ho, sizeLine_eq]; exact Nat.le_of_ble_eq_true rfl))
  · obtain ⟨t, rfl⟩ := DIn.str_inv (show DIn rest r (.str (txt (plainOf o))) from hr)
    refine .inr (TupRule.str ?_)
    obtain ⟨b0, b1, b2, b3, b4, b5, b6, b7, rfl⟩ := eight_list ho
    rw [sizeLine_eq]
    exact Nat.le_of_ble_eq_true rfl
  · exact .inl (tup _ hr)
  · exact .inr (lst _ (Nat.le_of_ble_eq_true rfl) hr)
  · exact .inr (lst _ (Nat.le_of_ble_eq_true rfl) hr)
  · exact .inr (lst _ (Nat.le_of_ble_eq_true rfl) hr)
  · exact .inr (lst _ (Nat.le_of_ble_eq_true rfl) hr)
  · exact .inr (lst _ (Nat.le_of_ble_eq_true rfl) hr)
  · exact .inl (tup _ hr)
  · exact .inr (lst _ (Nat.le_of_ble_eq_true rfl) hr)
  · exact .inr (lst _ (Nat.le_of_ble_eq_true rfl) hr)
  · exact .inr (lst _ (Nat.le_of_ble_eq_true rfl) hr)
/-- the factory in the ledger: fresh, or with its dict -/
inductive FacIs (prog : Program) (w : World) (fa fd : Addr) : Led → List (Dt × Addr × Value) → Prop
  | fresh (h : @Ne Nat fa fd) : FacIs prog w fa fd [(fa, instObj 130 fd), (fd, dictOf [] 0)] []
  | set {kd : Addr} {hh : Int} {t0 : Tok} {n : Nat} {KO : Obj} {xs : List (Dt × Addr × Value)} (h1 : @Ne Nat fa fd) (h2 : @Ne Nat fa kd) (h3 : @Ne Nat fd kd) (T : TabObj prog w KO xs) (lo : (kd == sysModules) = false) :
      FacIs prog w fa fd [(fa, instObj 130 fd), (fd, dictOf [⟨hh, .str "data" t0, .ref kd⟩] n), (kd, KO)] xs
theorem ne_of_obj {g h : Heap} {L a b : Addr} {o o' : Obj} {led : Led} (N : News g L h led) (h1 : (a, o) ∈ led) (h2 : (b, o') ∈ led) (hne : o.data ≠ o'.data) : @Ne Nat a b := fun e => by
  have x1 := (N _ h1).1
  have x2 := (N _ h2).1
  dsimp only at x1 x2
  rw [e, x2] at x1
  exact hne (congrArg Obj.data (Option.some.inj x1)).symm
theorem load_of (hmk : Marks hd.heap_39 PySem.Challenge.rw_vy0039_01) {prog : Program} {w : World} {p : Program} {loose : List Str} {mean : ExcName → Option Value} {mg mb : Str → Option Value}
    {k : Nat} (hk : k < 12) {o : List UInt8} (ho : o.length = 8) {b : Str} {fa fd : Addr} {FL rest rl : Led} {xs : List (Dt × Addr × Value)} {r : Value} (hF : FacIs prog w fa fd FL xs) (hrl : ∀ q ∈ rl, q ∈ rest) (hr : DIn rl r (refD k o b))
    (hap : ∀ q ∈ rest, ∀ p ∈ FL, p.1 ≠ q.1) (hkeys : ∀ x ∈ xs, DIn rest (.ref x.2.1) x.1 ∧ okK 3 x.1 = true) (hvals : ∀ x ∈ xs, ∃ x0, x.2.2 = .ref x0) (hz : xs.length ≤ sizeLine)
    (dp un : Nat) (gd : Option (List Code)) (cn : Str) (cs : Scope) (a : Addr) (ccd : Value) (cl : List (Str × Addr)) (A₀ : Around) (h₀ : Heap) (L : Addr) (m : Str → Option Value) (s : Shared) (Q E : Value → Shared → Prop)
    (B : Below A₀ h₀ [] h₀) (F : Fr h₀ L s.heap m) (X : (hd.heap_39 w.params).In h₀) (N : News h₀ L s.heap (FL ++ rest)) (T : Top p loose mean mg mb h₀) (hkd : cs.kind = .function) (hdp : dp + 40 < recursionLimit) (hun : un + 320 < cLine)
    (hfound : ∀ ka0 x0 h' tk', atKey xs (.tup (keyOf (refD k o b))) = some (ka0, .ref x0) → Fr h₀ L h' m → News h₀ L h' (FL ++ rest) → Q (.ref x0) { s with heap := h', toks := tk' })
    (hmiss : ∀ x tl FL' kk h' tk', atKey xs (.tup (keyOf (refD k o b))) = none → FacIs prog w fa fd FL' (storedH xs (.tup (keyOf (refD k o b))) kk (.ref x)) → Fr h₀ L h' m → News h₀ L h' (FL' ++ (tl ++ rest)) →
      (∀ q ∈ tl ++ rest, ∀ p ∈ FL', p.1 ≠ q.1) → (∀ q ∈ rest, ∀ p ∈ tl, p.1 ≠ q.1) → IsPR tl x r (oidOf k o) (dbOf k b) (weakOf k) → DIn (tl ++ rl) (.ref kk) (.tup (keyOf (refD k o b))) → Q (.ref x) { s with heap := h', toks := tk' }) :
    wpAny (model prog w) (ktrTop dp un gd cn cs L a ccd cl []) (call (.ref 127) [.ref fa, r]) Q E s := by
  have hok := key_ok hk ho b
  have hmade : ∀ news : Led, (∀ q ∈ rl, q ∈ news) → ClaimT prog w (hd.heap_39 w.params) p loose mean mg mb 109 [r] news (fun v tl => ∃ x, v = .ref x ∧ IsPR tl x r (oidOf k o) (dbOf k b) (weakOf k)) := fun news hs => pr_of_form hmk hk ho (hr.mono hs)
  -- the new ledger put in order
  have fin : ∀ {tl FL' : Led} {x kk : Addr} {h' : Heap} {tk' : Nat} (N' : News h₀ L h' (FL' ++ (tl ++ rest))) (F' : Fr h₀ L h' m) (hn : atKey xs (.tup (keyOf (refD k o b))) = none) (hF' : FacIs prog w fa fd FL' (storedH xs (.tup (keyOf (refD k o b))) kk (.ref x)))
      (h1 : ∀ q ∈ rest, ∀ p ∈ FL', p.1 ≠ q.1) (h2 : ∀ q ∈ rest, ∀ p ∈ tl, p.1 ≠ q.1) (h3 : ∀ q ∈ tl, ∀ p ∈ FL', p.1 ≠ q.1) (hp : IsPR tl x r (oidOf k o) (dbOf k b) (weakOf k)) (hkk : DIn (tl ++ rl) (.ref kk) (.tup (keyOf (refD k o b)))), Q (.ref x) { s with heap := h', toks := tk' } :=
    fun N' F' hn hF' h1 h2 h3 hp hkk => hmiss _ _ _ _ _ _ hn hF' F' N' (fun q hq => (List.mem_append.mp hq).elim (h3 q) (h1 q)) h2 hp hkk
  rcases hF with h | @⟨kd, hh, t0, n, KO, _, h1, h2, h3, hT, lo⟩
  · rcases ref_kind (prog := prog) (w := w) hk ho hr with ⟨ra, vs, nk, rfl, hra, da⟩ | hR
    · refine load_new_tup (kd := 0) (hh := 0) (t0 := 0) (n := 0) (KO := dictOf [] 0) (xs := []) hmk hra da hok hrl (fun q hq => ⟨(hap q hq _ (.head _)).symm, (hap q hq _ (.tail _ (.head _))).symm⟩) h hmade dp un gd cn cs a ccd cl A₀ h₀ L m s Q E B F X N T hkd hdp hun ?_
      intro v tl kd KO' hh t0 n h' tk' lo' hlt F' N' hap' hne Tab rr
      obtain ⟨x, rfl, hx⟩ := rr
      refine fin (tl := tl) (kk := ra) (FL' := [(fa, instObj 130 fd), (fd, dictOf [⟨hh, .str "data" t0, .ref kd⟩] n), (kd, KO')]) (fun p hp => N' p ?_) F' rfl (.set h (Nat.ne_of_lt hlt.1) (Nat.ne_of_lt hlt.2) Tab lo') (fun q hq => ?_) (fun q hq p hp => hap' q hq p (.tail _ (.tail _ (.tail _ hp)))) (fun q hq => ?_) hx (.tup (List.mem_append_right _ hra) (da.mono fun _ h => List.mem_append_right _ h))
      · simp only [List.mem_append, List.mem_cons, List.not_mem_nil, or_false] at hp ⊢
        rcases hp with (h | h | h) | h | h <;> simp [h]
      · exact forall_in_cons (hap' q hq _ (.tail _ (.head _))) (forall_in_cons (hap' q hq _ (.tail _ (.tail _ (.head _)))) (forall_in_cons (hap' q hq _ (.head _)) forall_in_nil))
      · exact forall_in_cons (hne q hq).1.symm (forall_in_cons (hne q hq).2.1.symm (forall_in_cons (hne q hq).2.2.symm forall_in_nil))
    · refine load_new_other (kd := 0) (hh := 0) (t0 := 0) (n := 0) (KO := dictOf [] 0) (xs := []) hmk hR hok hrl (fun q hq => ⟨(hap q hq _ (.head _)).symm, (hap q hq _ (.tail _ (.head _))).symm⟩) h hmade dp un gd cn cs a ccd cl A₀ h₀ L m s Q E B F X N T hkd hdp hun ?_
      intro v tl D ys kd KO' hh t0 n h' tk' lo' hlt F' N' hap' hne Tab da rr
      obtain ⟨x, rfl, hx⟩ := rr
      obtain ⟨es, ep, hKO, _⟩ := Tab.2.1
      have hD : ((D, ({ cls := .type "tuple", data := .seq ys.toArray } : Obj)) : Addr × Obj) ∈ (((D, ({ cls := .type "tuple", data := .seq ys.toArray } : Obj)) :: (kd, KO') :: (fa, instObj 130 fd) :: (fd, dictOf [⟨hh, .str "data" t0, .ref kd⟩] n) :: tl) ++ rest : Led) := .head _
      refine fin (tl := (D, ({ cls := .type "tuple", data := .seq ys.toArray } : Obj)) :: tl) (kk := D) (FL' := [(fa, instObj 130 fd), (fd, dictOf [⟨hh, .str "data" t0, .ref kd⟩] n), (kd, KO')]) (fun p hp => N' p ?_) F' rfl (.set h (Nat.ne_of_lt hlt.1) (Nat.ne_of_lt hlt.2) Tab lo') (fun q hq => ?_) (fun q hq => forall_in_cons (hap' q hq _ (.head _)) fun p hp => hap' q hq p (.tail _ (.tail _ (.tail _ (.tail _ hp))))) (forall_in_cons ?_ fun q hq => ?_) (hx.mono fun _ h => .tail _ h) (.tup (.head _) (da.mono fun _ h => List.mem_append_right _ h))
      · simp only [List.mem_append, List.mem_cons, List.not_mem_nil, or_false] at hp ⊢
        rcases hp with (h | h | h) | (h | h) | h <;> simp [h]
      · exact forall_in_cons (hap' q hq _ (.tail _ (.tail _ (.head _)))) (forall_in_cons (hap' q hq _ (.tail _ (.tail _ (.tail _ (.head _))))) (forall_in_cons (hap' q hq _ (.tail _ (.head _))) forall_in_nil))
      · exact forall_in_cons (ne_of_obj N' (.tail _ (.tail _ (.head _))) hD (by intro e; cases e)) (forall_in_cons (ne_of_obj N' (.tail _ (.tail _ (.tail _ (.head _)))) hD (by intro e; cases e)) (forall_in_cons (ne_of_obj N' (.tail _ (.head _)) hD (by rw [hKO]; intro e; cases e)) forall_in_nil))
      · exact forall_in_cons (hne q hq).1.symm (forall_in_cons (hne q hq).2.1.symm (forall_in_cons (hne q hq).2.2.symm forall_in_nil))
  · have hap3 : ∀ q ∈ rest, q.1 ≠ fa ∧ q.1 ≠ fd ∧ q.1 ≠ kd := fun q hq => ⟨(hap q hq _ (.head _)).symm, (hap q hq _ (.tail _ (.head _))).symm, (hap q hq _ (.tail _ (.tail _ (.head _)))).symm⟩
    rcases ref_kind (prog := prog) (w := w) hk ho hr with ⟨ra, vs, nk, rfl, hra, da⟩ | hR
    · refine load_set_tup hmk hra da hok hrl hap3 h1 h2 h3 hT hkeys hvals lo hz hmade dp un gd cn cs a ccd cl A₀ h₀ L m s Q E B F X N T hkd hdp hun hfound ?_
      intro v tl h' KO' tk' hn F' N' hap' hne Tab rr
      obtain ⟨x, rfl, hx⟩ := rr
      refine fin (tl := tl) (kk := ra) (FL' := [(fa, instObj 130 fd), (fd, dictOf [⟨hh, .str "data" t0, .ref kd⟩] n), (kd, KO')]) (fun p hp => N' p ?_) F' hn (.set h1 h2 h3 Tab lo) (fun q hq => ?_) (fun q hq p hp => hap' q hq p (.tail _ (.tail _ (.tail _ hp)))) (fun q hq => ?_) hx (.tup (List.mem_append_right _ hra) (da.mono fun _ h => List.mem_append_right _ h))
      · simp only [List.mem_append, List.mem_cons, List.not_mem_nil, or_false] at hp ⊢
        rcases hp with (h | h | h) | h | h <;> simp [h]
      · exact forall_in_cons (hap' q hq _ (.head _)) (forall_in_cons (hap' q hq _ (.tail _ (.head _))) (forall_in_cons (hap' q hq _ (.tail _ (.tail _ (.head _)))) forall_in_nil))
      · exact forall_in_cons (hne q hq).1.symm (forall_in_cons (hne q hq).2.1.symm (forall_in_cons (hne q hq).2.2.symm forall_in_nil))
    · refine load_set_other hmk hR hok hrl hap3 h1 h2 h3 hT hkeys hvals lo hz hmade dp un gd cn cs a ccd cl A₀ h₀ L m s Q E B F X N T hkd hdp hun hfound ?_
      intro v tl D ys h' KO' tk' hn F' N' hap' hne Tab da rr
      obtain ⟨x, rfl, hx⟩ := rr
      obtain ⟨es, ep, hKO, _⟩ := Tab.2.1
      refine fin (tl := (D, ({ cls := .type "tuple", data := .seq ys.toArray } : Obj)) :: tl) (kk := D) (FL' := [(fa, instObj 130 fd), (fd, dictOf [⟨hh, .str "data" t0, .ref kd⟩] n), (kd, KO')]) (fun p hp => N' p ?_) F' hn (.set h1 h2 h3 Tab lo) (fun q hq => ?_) (fun q hq => forall_in_cons (hap' q hq _ (.head _)) fun p hp => hap' q hq p (.tail _ (.tail _ (.tail _ (.tail _ hp))))) (forall_in_cons ?_ fun q hq => ?_) (hx.mono fun _ h => .tail _ h) (.tup (.head _) (da.mono fun _ h => List.mem_append_right _ h))
      · simp only [List.mem_append, List.mem_cons, List.not_mem_nil, or_false] at hp ⊢
        rcases hp with (h | h | h) | (h | h) | h <;> simp [h]
      · exact forall_in_cons (hap' q hq _ (.tail _ (.head _))) (forall_in_cons (hap' q hq _ (.tail _ (.tail _ (.head _)))) (forall_in_cons (hap' q hq _ (.tail _ (.tail _ (.tail _ (.head _))))) forall_in_nil))
      · exact forall_in_cons (ne_of_obj N' (.tail _ (.head _)) (.head _) (by intro e; cases e)) (forall_in_cons (ne_of_obj N' (.tail _ (.tail _ (.head _))) (.head _) (by intro e; cases e)) (forall_in_cons (ne_of_obj N' (.tail _ (.tail _ (.tail _ (.head _)))) (.head _) (by rw [hKO]; intro e; cases e)) forall_in_nil))
      · exact forall_in_cons (hne q hq).1.symm (forall_in_cons (hne q hq).2.1.symm (forall_in_cons (hne q hq).2.2.symm forall_in_nil))
end Mine
end
section
open PySem PySem.W PyProof.Rows
namespace Mine
open scoped Classical
set_option maxRecDepth 100000
set_option linter.unusedVariables false
/-- what the law found of one number -/
structure Ent where
  k : Nat
  o : List UInt8
  b : Str
  x : Addr
  dv : Value
def Ent.key (e : Ent) : Dt := .tup (keyOf (refD e.k e.o e.b))
/-- an item of the list found: (made, due, lost) -/
def EntIn (led : Led) (v : Value) (e : Ent) : Prop :=
  e.k < 13 ∧ e.o.length = 8 ∧ ∃ (tA n : Nat) (dueV : Value), v = .ref tA ∧ (tA, ({ cls := .type "tuple", data := .seq #[.ref e.x, dueV, .bool (decide (e.k = 12))] n } : Obj)) ∈ led ∧
    IsPR led e.x e.dv (oidOf e.k e.o) (dbOf e.k e.b) (weakOf e.k) ∧ DIn led e.dv (dataOf e.k e.o e.b) ∧ DIn led dueV (dueD e.k e.o e.b)
theorem EntIn.mono {led led' : Led} (h : ∀ p ∈ led, p ∈ led') {v : Value} {e : Ent} (x : EntIn led v e) : EntIn led' v e := by
  obtain ⟨a, b, tA, n, dueV, c, d, f, g, i⟩ := x
  exact ⟨a, b, tA, n, dueV, c, h _ d, f.mono h, g.mono h, i.mono h⟩
inductive EntsIn (led : Led) : List Value → List Ent → Prop
  | nil : EntsIn led [] []
  | cons {v : Value} {vs : List Value} {e : Ent} {es : List Ent} : EntIn led v e → EntsIn led vs es → EntsIn led (v :: vs) (e :: es)
theorem EntsIn.mono {led led' : Led} (h : ∀ p ∈ led, p ∈ led') : ∀ {vs : List Value} {es : List Ent}, EntsIn led vs es → EntsIn led' vs es
  | _, _, .nil => .nil
  | _, _, .cons a b => .cons (a.mono h) (b.mono h)
theorem EntsIn.snoc {led : Led} {v : Value} {e : Ent} (h : EntIn led v e) : ∀ {vs : List Value} {es : List Ent}, EntsIn led vs es → EntsIn led (vs ++ [v]) (es ++ [e])
  | _, _, .nil => .cons h .nil
  | _, _, .cons a b => .cons a (b.snoc h)
theorem EntsIn.length {led : Led} : ∀ {vs : List Value} {es : List Ent}, EntsIn led vs es → vs.length = es.length
  | _, _, .nil => rfl
  | _, _, .cons _ b => by simp [b.length]
theorem EntsIn.at {led : Led} : ∀ {vs : List Value} {es : List Ent} {i : Nat} {v : Value}, EntsIn led vs es → vs[i]? = some v → ∃ e, es[i]? = some e ∧ EntIn led v e
  | _, _, _, _, .nil, h => by simp at h
  | _, _, 0, _, .cons a b, h => by simp at h; subst h; exact ⟨_, rfl, a⟩
  | _, _, i + 1, _, .cons a b, h => by simpa using b.at (i := i) (by simpa using h)
/-- the factory's keys against what was found -/
structure FacKeys (rest : Led) (xs : List (Dt × Addr × Value)) (es : List Ent) : Prop where
  keys : ∀ x ∈ xs, DIn rest (.ref x.2.1) x.1 ∧ okK 3 x.1 = true
  vals : ∀ x ∈ xs, ∃ x0 o, x.2.2 = .ref x0 ∧ (x0, o) ∈ rest
  inj : ∀ x ∈ xs, ∀ y ∈ xs, x.2.2 = y.2.2 → x.1 = y.1
  link : ∀ e ∈ es, e.k < 12 → ∃ ka, atKey xs e.key = some (ka, .ref e.x)
  back : ∀ x ∈ xs, ∃ e ∈ es, e.k < 12 ∧ e.o.length = 8 ∧ x.2.2 = .ref e.x ∧ x.1 = e.key
theorem FacKeys.nil {rest : Led} : FacKeys rest [] [] := ⟨nofun, nofun, nofun, nofun, nofun⟩
theorem FacKeys.mono {rest rest' : Led} (h : ∀ p ∈ rest, p ∈ rest') {xs : List (Dt × Addr × Value)} {es : List Ent} (K : FacKeys rest xs es) : FacKeys rest' xs es :=
  ⟨fun x hx => ⟨(K.keys x hx).1.mono h, (K.keys x hx).2⟩, fun x hx => by obtain ⟨x0, o, a, b⟩ := K.vals x hx; exact ⟨x0, o, a, h _ b⟩, K.inj, K.link, K.back⟩
/-- one is other exactly if they were written alike -/
theorem FacKeys.same {rest : Led} {xs : List (Dt × Addr × Value)} {es : List Ent} (K : FacKeys rest xs es) {e f : Ent} (he : e ∈ es) (hf : f ∈ es) (h1 : e.k < 12) (h2 : f.k < 12) (o1 : e.o.length = 8) (o2 : f.o.length = 8) :
    e.x = f.x ↔ dataOf e.k e.o e.b = dataOf f.k f.o f.b := by
  rw [data_ref h1, data_ref h2, ← key_inj h1 h2 o1 o2]
  obtain ⟨ka, ha⟩ := K.link e he h1
  obtain ⟨kb, hb⟩ := K.link f hf h2
  constructor
  · intro hx
    have m1 := atKey_mem ha
    have m2 := atKey_mem hb
    have := K.inj _ m1 _ m2 (by rw [hx])
    exact Dt.tup.inj this
  · intro hk
    have : e.key = f.key := congrArg Dt.tup hk
    rw [this, hb] at ha
    have := Option.some.inj ha
    exact (Value.ref.inj (Prod.mk.inj this).2).symm
theorem atKey_snoc_self {xs : List (Dt × Addr × Value)} {k : Dt} {a : Addr} {v : Value} (h : atKey xs k = none) : atKey (xs ++ [(k, a, v)]) k = some (a, v) := by
  unfold atKey at h ⊢
  have h' : xs.find? (fun x => decide (x.1 = k)) = none := by simpa using h
  rw [List.find?_append, h']
  simp
theorem atKey_snoc_old {xs : List (Dt × Addr × Value)} {k k' : Dt} {a : Addr} {v : Value} {p : Addr × Value} (h : atKey xs k' = some p) : atKey (xs ++ [(k, a, v)]) k' = some p := by
  unfold atKey at h ⊢
  cases e : xs.find? (fun x => decide (x.1 = k')) with
  | none => rw [e] at h; cases h
  | some y => rw [e] at h; rw [List.find?_append, e]; exact h
/-- found again -/
theorem FacKeys.again {rest : Led} {xs : List (Dt × Addr × Value)} {es : List Ent} (K : FacKeys rest xs es) {e : Ent} {ka : Addr} (h : atKey xs e.key = some (ka, .ref e.x)) : FacKeys rest xs (es ++ [e]) :=
  ⟨K.keys, K.vals, K.inj, fun f hf h1 => by
    rcases List.mem_append.mp hf with hf | hf
    · exact K.link f hf h1
    · cases List.mem_singleton.mp hf; exact ⟨ka, h⟩, fun x hx => by obtain ⟨f, hf, r⟩ := K.back x hx; exact ⟨f, List.mem_append_left _ hf, r⟩⟩
/-- a lost one -/
theorem FacKeys.lost {rest : Led} {xs : List (Dt × Addr × Value)} {es : List Ent} (K : FacKeys rest xs es) {e : Ent} (h : ¬ e.k < 12) : FacKeys rest xs (es ++ [e]) :=
  ⟨K.keys, K.vals, K.inj, fun f hf h1 => by
    rcases List.mem_append.mp hf with hf | hf
    · exact K.link f hf h1
    · cases List.mem_singleton.mp hf; exact absurd h1 h, fun x hx => by obtain ⟨f, hf, r⟩ := K.back x hx; exact ⟨f, List.mem_append_left _ hf, r⟩⟩
/-- a new key -/
theorem FacKeys.more {rest : Led} {xs : List (Dt × Addr × Value)} {es : List Ent} (K : FacKeys rest xs es) {e : Ent} {kk : Addr} {o : Obj} (h : atKey xs e.key = none) (h12 : e.k < 12) (h8 : e.o.length = 8) (hk : DIn rest (.ref kk) e.key) (hok : okK 3 e.key = true) (hx : (e.x, o) ∈ rest)
    (hnew : ∀ x ∈ xs, x.2.2 ≠ .ref e.x) : FacKeys rest (storedH xs e.key kk (.ref e.x)) (es ++ [e]) := by
  rw [storedH_new h]
  refine ⟨fun x hx' => ?_, fun x hx' => ?_, fun x hx' y hy' he => ?_, fun f hf h1 => ?_, fun x hx' => ?_⟩
  · rcases List.mem_append.mp hx' with hx' | hx'
    · exact K.keys x hx'
    · cases List.mem_singleton.mp hx'; exact ⟨hk, hok⟩
  · rcases List.mem_append.mp hx' with hx' | hx'
    · exact K.vals x hx'
    · cases List.mem_singleton.mp hx'; exact ⟨_, _, rfl, hx⟩
  · rcases List.mem_append.mp hx' with hx' | hx' <;> rcases List.mem_append.mp hy' with hy' | hy'
    · exact K.inj x hx' y hy' he
    · cases List.mem_singleton.mp hy'; exact absurd he (hnew x hx')
    · cases List.mem_singleton.mp hx'; exact absurd he.symm (hnew y hy')
    · cases List.mem_singleton.mp hx'; cases List.mem_singleton.mp hy'; rfl
  · rcases List.mem_append.mp hf with hf | hf
    · obtain ⟨ka, hka⟩ := K.link f hf h1
      exact ⟨ka, atKey_snoc_old hka⟩
    · cases List.mem_singleton.mp hf
      exact ⟨kk, atKey_snoc_self h⟩
  · rcases List.mem_append.mp hx' with hx' | hx'
    · obtain ⟨f, hf, r⟩ := K.back x hx'
      exact ⟨f, List.mem_append_left _ hf, r⟩
    · cases List.mem_singleton.mp hx'
      exact ⟨e, List.mem_append_right _ (.head _), h12, h8, rfl, rfl⟩
/-- what a reference tells, read off what it was written as -/
def oidR : Dt → List UInt8
  | .bytes o => o
  | .str x => x.cps.toList.map UInt8.ofNat
  | .tup [.bytes o, _] => o
  | .tup [.str x, _] => x.cps.toList.map UInt8.ofNat
  | .lst [.bytes o] => o
  | .lst [_, .tup [.bytes o]] => o
  | .lst [_, .tup [.str x]] => x.cps.toList.map UInt8.ofNat
  | .lst [_, .tup [.bytes o, _]] => o
  | .lst [_, .tup [_, .bytes o]] => o
  | .lst [_, .tup [_, .str x]] => x.cps.toList.map UInt8.ofNat
  | .lst [_, .tup [_, .bytes o, _]] => o
  | .lst [_, .tup [_, .str x, _]] => x.cps.toList.map UInt8.ofNat
  | _ => []
def dbR : Dt → Dt
  | .lst [_, .tup [.bytes _, b]] => b
  | .lst [_, .tup [b, _]] => b
  | .lst [_, .tup [b, _, _]] => b
  | _ => .none
def wkR : Dt → Bool
  | .lst [.bytes _] => true
  | .lst [.str x, _] => decide (x = "w")
  | _ => false
theorem ofNat_map : ∀ l : List UInt8, (l.map UInt8.toNat).map UInt8.ofNat = l
  | [] => rfl
  | c :: r => by rw [List.map_cons, List.map_cons, ofNat_map r, UInt8.ofNat_toNat]
theorem refR {k : Nat} (hk : k < 12) {o : List UInt8} (ho : o.length = 8) (b : Str) : oidR (refD k o b) = oidOf k o ∧ dbR (refD k o b) = dbOf k b ∧ wkR (refD k o b) = weakOf k := by
  obtain ⟨b0, b1, b2, b3, b4, b5, b6, b7, rfl⟩ := eight_list ho
  have hp : (txt (plainOf [b0, b1, b2, b3, b4, b5, b6, b7])).cps.toList.map UInt8.ofNat = plainOf [b0, b1, b2, b3, b4, b5, b6, b7] := ofNat_map _
  have hks : k = 0 ∨ k = 1 ∨ k = 2 ∨ k = 3 ∨ k = 4 ∨ k = 5 ∨ k = 6 ∨ k = 7 ∨ k = 8 ∨ k = 9 ∨ k = 10 ∨ k = 11 := by omega
  rcases hks with rfl | rfl | rfl | rfl | rfl | rfl | rfl | rfl | rfl | rfl | rfl | rfl
  · exact ⟨rfl, rfl, rfl⟩
  · exact ⟨hp, rfl, rfl⟩
  · exact ⟨rfl, rfl, rfl⟩
  · exact ⟨rfl, rfl, rfl⟩
  · exact ⟨rfl, rfl, rfl⟩
  · exact ⟨rfl, rfl, rfl⟩
  · exact ⟨rfl, rfl, rfl⟩
  · exact ⟨rfl, rfl, rfl⟩
  · exact ⟨hp, rfl, rfl⟩
  · exact ⟨hp, rfl, rfl⟩
  · exact ⟨hp, rfl, rfl⟩
  · exact ⟨hp, rfl, rfl⟩
theorem storedH_len {xs : List (Dt × Addr × Value)} {k : Dt} {a : Addr} {v : Value} (h : atKey xs k = none) : (storedH xs k a v).length = xs.length + 1 := by
  rw [storedH_new h]; simp
/-- an item of the four ids -/
theorem tail_ids {prog : Program} {w : World} {A : Around} {E : Value → Shared → Prop} {s : Shared} {h₀ : Heap} {L : Addr} {news : Led} {value slice : Expr} {D : Addr} {o0 o1 o2 o3 : List UInt8} {t0 t1 t2 t3 : Tok} {n0 : Int} {tk : Tok} {n : Nat} {Q : Value → Shared → Prop}
    (N : News h₀ L s.heap news) (hm : (D, listOf #[.bytes o0.toArray t0, .bytes o1.toArray t1, .bytes o2.toArray t2, .bytes o3.toArray t3] n) ∈ news) (l0 : o0.length = 8) (l1 : o1.length = 8) (l2 : o2.length = 8) (l3 : o3.length = 8)
    (h : ∀ (o : List UInt8) (t : Tok), o.length = 8 → Q (.bytes o.toArray t) s)
    (hs : subscripted slice false (.ref D) (.int (n0.fmod 4) tk) = operate [.ref D, .int (n0.fmod 4) tk] (getItem (.ref D) (.int (n0.fmod 4) tk))) :
    wpAny (model prog w) A (subscriptTail value slice (.ref D) (.int (n0.fmod 4) tk)) Q E s := by
  have hb := Int.fmod_nonneg_of_pos n0 (b := 4) (by decide)
  have hc := Int.fmod_lt_of_pos n0 (b := 4) (by decide)
  refine tail_at (vs := [.bytes o0.toArray t0, .bytes o1.toArray t1, .bytes o2.toArray t2, .bytes o3.toArray t3]) N hm hb hc (Nat.le_of_ble_eq_true rfl) ?_ hs
  have hk : n0.fmod 4 = 0 ∨ n0.fmod 4 = 1 ∨ n0.fmod 4 = 2 ∨ n0.fmod 4 = 3 := by omega
  rcases hk with e | e | e | e <;> rw [e]
  · exact h o0 t0 l0
  · exact h o1 t1 l1
  · exact h o2 t2 l2
  · exact h o3 t3 l3
end Mine
end
section
open PySem PySem.W PyProof.Rows
namespace Mine
set_option maxRecDepth 100000
set_option linter.unusedVariables false
abbrev namesA : List Str := ["number", "oid", "ref", "due", "again", "same", "lost", "made"]
/-- the frame's names, those of the loop apart -/
def mL (c mm : Str → Option Value) : Str → Option Value := fun y => if y ∈ namesA then c y else mm y
theorem mL_of {M mm : Str → Option Value} (h : ∀ y, y ∉ namesA → M y = mm y) : M = mL M mm := by
  funext y
  unfold mL
  split
  · rfl
  · exact h y ‹_›
/-- the ledger of a turn of the first loop -/
abbrev ledA (it : Addr) (io : Obj) (fo : Addr) (oo : Obj) (FL rest : Led) : Led := (it, io) :: (fo, oo) :: (FL ++ rest)
structure Ap (it fo : Addr) (FL rest : Led) : Prop where
  hfl : ∀ q ∈ rest, ∀ p ∈ FL, p.1 ≠ q.1
  hfo : ∀ q ∈ FL ++ rest, q.1 ≠ fo
  hit : ∀ q ∈ FL ++ rest, q.1 ≠ it
  hoi : @Ne Nat fo it
theorem Ap.absorb {it fo : Addr} {io oo : Obj} {FL rest tl : Led} (A : Ap it fo FL rest) (ne : ∀ q ∈ ledA it io fo oo FL rest, ∀ p ∈ tl, p.1 ≠ q.1) : Ap it fo FL (tl ++ rest) := by
  refine ⟨fun q hq p hp => ?_, fun q hq => ?_, fun q hq => ?_, A.hoi⟩
  · rcases List.mem_append.mp hq with hq | hq
    · exact (ne p (.tail _ (.tail _ (List.mem_append_left _ hp))) q hq).symm
    · exact A.hfl q hq p hp
  · rcases List.mem_append.mp hq with hq | hq
    · exact A.hfo q (List.mem_append_left _ hq)
    · rcases List.mem_append.mp hq with hq | hq
      · exact ne _ (.tail _ (.head _)) q hq
      · exact A.hfo q (List.mem_append_right _ hq)
  · rcases List.mem_append.mp hq with hq | hq
    · exact A.hit q (List.mem_append_left _ hq)
    · rcases List.mem_append.mp hq with hq | hq
      · exact ne _ (.head _) q hq
      · exact A.hit q (List.mem_append_right _ hq)
theorem ledA_absorb {g h : Heap} {L it fo : Addr} {io oo : Obj} {FL rest tl : Led} (N : News g L h (tl ++ ledA it io fo oo FL rest)) : News g L h (ledA it io fo oo FL (tl ++ rest)) := fun p hp => N p (by
  simp only [ledA, List.mem_append, List.mem_cons] at hp ⊢
  rcases hp with h | h | h | h | h <;> simp [h])
theorem ledA_rest {it fo : Addr} {io oo : Obj} {FL rest : Led} {p : Addr × Obj} (h : p ∈ rest) : p ∈ ledA it io fo oo FL rest := .tail _ (.tail _ (List.mem_append_right _ h))
/-- the state before item i of the first loop -/
def StA (prog : Program) (w : World) (h₀ : Heap) (fa fd fo : Addr) (mm : Str → Option Value) (base : Led) (i : Nat) (g : Heap) (m : Str → Option Value) (led : Led) : Prop :=
  g = h₀ ∧ ∃ c nf vs es FL xs rest, m = mL c mm ∧ led = (fo, listOf vs.toArray nf) :: (FL ++ rest) ∧ vs.length = i ∧ EntsIn rest vs es ∧ FacIs prog w fa fd FL xs ∧ FacKeys rest xs es ∧ xs.length ≤ i ∧
    (∀ q ∈ rest, ∀ p ∈ FL, p.1 ≠ q.1) ∧ (∀ q ∈ FL ++ rest, q.1 ≠ fo) ∧ (∀ p ∈ base, p ∈ rest)
/-- the first loop of the law, from its start -/
theorem law_loopA {prog : Program} {w : World} {A : Around} {env : Env} {L it Ds fo xf df Di ce : Addr} {io od oc : Obj} {ws : List Value} {s : Shared} {R : Result → Shared → Prop} {target : Expr} {body orelse : List Stmt} {h₀ : Heap} {M : Str → Option Value}
    (hA : A.handled = none) (F : Fr h₀ L s.heap M) (N : News h₀ L s.heap [(it, io), (Ds, listOf ws.toArray 0), (fo, listOf #[] 0), (xf, instObj 130 df), (df, dictOf [] 0), (Di, od), (ce, oc), (148, tabObj #[])]) (hio : lstIt Ds io 0)
    (bit : ∀ p ∈ ([(Ds, listOf ws.toArray 0), (fo, listOf #[] 0), (xf, instObj 130 df), (df, dictOf [] 0), (Di, od), (ce, oc), (148, tabObj #[])] : Led), p.1 < it)
    (bD : @LT.lt Nat _ fo Ds ∧ @LT.lt Nat _ xf Ds ∧ @LT.lt Nat _ df Ds) (bfo : @LT.lt Nat _ xf fo ∧ @LT.lt Nat _ df fo ∧ @LT.lt Nat _ Di fo ∧ @LT.lt Nat _ ce fo ∧ @LT.lt Nat _ 148 fo) (bx : @LT.lt Nat _ Di df ∧ @LT.lt Nat _ ce df ∧ @LT.lt Nat _ 148 df) (bxd : @LT.lt Nat _ df xf)
    (turn : ∀ i v g m led io h tk, ws[i]? = some v → StA prog w h₀ xf df fo M [(Ds, listOf ws.toArray 0), (Di, od), (ce, oc), (148, tabObj #[])] i g m led → Fr g L h m → News g L h ((it, io) :: led) → (∀ p ∈ led, p.1 ≠ it) → lstIt Ds io (i + 1) →
      wpAny (model prog w) A (letOwnedTupleGo target (.ref it) v) (fun _ s₁' =>
        wpAny (model prog w) A (assign target env v) (fun _ s₂ => wpAny (model prog w) A (execs body env) (fun f s₃ => match f with
          | .next | .cont => ∃ g' m' led' h' tk', StA prog w h₀ xf df fo M [(Ds, listOf ws.toArray 0), (Di, od), (ce, oc), (148, tabObj #[])] (i + 1) g' m' led' ∧ Fr g' L h' m' ∧ News g' L h' ((it, io) :: led') ∧ (∀ p ∈ led', p.1 ≠ it) ∧ s₃ = { s with heap := h', toks := tk' }
          | .brk => R (.ok .next) s₃
          | .ret v => R (.ok (.ret v)) s₃) (notedBy (model prog w) A env fun e s' => R (.error e) s') s₂) (notedBy (model prog w) A env fun e s' => R (.error e) s') s₁') (notedBy (model prog w) A env fun e s' => R (.error e) s') { s with heap := h, toks := tk })
    (fin : ∀ g m led h tk, StA prog w h₀ xf df fo M [(Ds, listOf ws.toArray 0), (Di, od), (ce, oc), (148, tabObj #[])] ws.length g m led → Fr g L h m → News g L h led →
      wpAny (model prog w) A (execs orelse env) (fun f s₃ => R (.ok f) s₃) (notedBy (model prog w) A env fun e s' => R (.error e) s') { s with heap := h, toks := tk }) :
    codeAny (model prog w) A (.forLoop target (.ref it) body orelse env) R s := by
  refine for_led (draws_lst (D := Ds) (items := ws) (n := 0)) hA (StA prog w h₀ xf df fo M [(Ds, listOf ws.toArray 0), (Di, od), (ce, oc), (148, tabObj #[])]) ?src turn fin F (led₀ := (fo, listOf #[] 0) :: ([(xf, instObj 130 df), (df, dictOf [] 0)] ++ [(Ds, listOf ws.toArray 0), (Di, od), (ce, oc), (148, tabObj #[])])) (fun p hp => N p ?_) (fun p hp => Nat.ne_of_lt (bit p ?_)) hio
    ⟨rfl, M, 0, [], [], _, [], _, mL_of fun _ _ => rfl, rfl, rfl, .nil, .fresh (Nat.ne_of_gt bxd), .nil, Nat.le_refl _, ?_, ?_, fun _ h => h⟩
  case src =>
    rintro i g m led ⟨_, c, nf, vs, es, FL, xs, rest, _, rfl, _, _, _, _, _, _, _, hb⟩
    exact .tail _ (List.mem_append_right _ (hb _ (.head _)))
  · simp only [List.cons_append, List.nil_append, List.mem_cons, List.not_mem_nil, or_false] at hp ⊢
    rcases hp with h | h | h | h | h | h | h | h <;> simp [h]
  · simp only [List.cons_append, List.nil_append, List.mem_cons, List.not_mem_nil, or_false] at hp ⊢
    rcases hp with h | h | h | h | h | h | h <;> simp [h]
  · have lt_ne : ∀ {a b : Nat}, a < b → a ≠ b := fun h => Nat.ne_of_lt h
    refine forall_in_cons (forall_in_cons (Nat.ne_of_lt bD.2.1) (forall_in_cons (Nat.ne_of_lt bD.2.2) forall_in_nil)) (forall_in_cons ?_ (forall_in_cons ?_ (forall_in_cons ?_ forall_in_nil)))
    · exact forall_in_cons (Nat.ne_of_gt (Nat.lt_trans bx.1 bxd)) (forall_in_cons (Nat.ne_of_gt bx.1) forall_in_nil)
    · exact forall_in_cons (Nat.ne_of_gt (Nat.lt_trans bx.2.1 bxd)) (forall_in_cons (Nat.ne_of_gt bx.2.1) forall_in_nil)
    · exact forall_in_cons (Nat.ne_of_gt (Nat.lt_trans bx.2.2 bxd)) (forall_in_cons (Nat.ne_of_gt bx.2.2) forall_in_nil)
  · exact forall_in_cons (Nat.ne_of_lt bfo.1) (forall_in_cons (Nat.ne_of_lt bfo.2.1) (forall_in_cons (Nat.ne_of_gt bD.1) (forall_in_cons (Nat.ne_of_lt bfo.2.2.1) (forall_in_cons (Nat.ne_of_lt bfo.2.2.2.1) (forall_in_cons (Nat.ne_of_lt bfo.2.2.2.2) forall_in_nil)))))
end Mine
end
section
open PySem PySem.W PyProof.Rows
namespace Mine
open scoped Classical
set_option maxRecDepth 100000
set_option linter.unusedVariables false
/-- the state once `made` is told -/
def MadeQ (prog : Program) (w : World) (h₀ : Heap) (L : Addr) (m : Str → Option Value) (s : Shared) (it fo fa fd : Addr) (io oo : Obj) (rest : Led) (es : List Ent) (i k : Nat) (o : List UInt8) (b : Str) (v : Value) (s' : Shared) : Prop :=
  ∃ x dv FL xs tl h' tk, v = .ref x ∧ s' = { s with heap := h', toks := tk } ∧ Fr h₀ L h' m ∧ News h₀ L h' (ledA it io fo oo FL (tl ++ rest)) ∧ Ap it fo FL (tl ++ rest) ∧ FacIs prog w fa fd FL xs ∧
    FacKeys (tl ++ rest) xs (es ++ [⟨k, o, b, x, dv⟩]) ∧ xs.length ≤ i + 1 ∧ IsPR (tl ++ rest) x dv (oidOf k o) (dbOf k b) (weakOf k) ∧ DIn (tl ++ rest) dv (dataOf k o b)
section
variable {prog : Program} {w : World} {p : Program} {loose : List Str} {mean : ExcName → Option Value} {mg mb : Str → Option Value}
theorem EntsIn.of_mem {led : Led} {e : Ent} : ∀ {vs : List Value} {es : List Ent}, EntsIn led vs es → e ∈ es → ∃ v, EntIn led v e
  | _, _, .nil, h => nomatch h
  | _, _, .cons a b, h => by
    rcases List.mem_cons.mp h with rfl | h
    · exact ⟨_, a⟩
    · exact b.of_mem h
theorem made_load (hmk : Marks hd.heap_39 PySem.Challenge.rw_vy0039_01) {k i : Nat} (hk : k < 12) {o : List UInt8} (ho : o.length = 8) {b : Str} {it fo fa fd : Addr} {io oo : Obj} {FL rest : Led} {xs : List (Dt × Addr × Value)} {vs : List Value} {es : List Ent} {r : Value}
    (hF : FacIs prog w fa fd FL xs) (hK : FacKeys rest xs es) (hE : EntsIn rest vs es) (hx : xs.length ≤ i) (hi : i ≤ 100) (hr : DIn rest r (refD k o b)) (hA : Ap it fo FL rest)
    (dp un : Nat) (gd : Option (List Code)) (cn : Str) (cs : Scope) (a : Addr) (ccd : Value) (cl : List (Str × Addr)) (A₀ : Around) (h₀ : Heap) (L : Addr) (m : Str → Option Value) (s : Shared) (E : Value → Shared → Prop)
    (B : Below A₀ h₀ [] h₀) (F : Fr h₀ L s.heap m) (X : (hd.heap_39 w.params).In h₀) (N : News h₀ L s.heap (ledA it io fo oo FL rest)) (T : Top p loose mean mg mb h₀) (hkd : cs.kind = .function) (hdp : dp + 40 < recursionLimit) (hun : un + 320 < cLine) :
    wpAny (model prog w) (ktrTop dp un gd cn cs L a ccd cl []) (call (.ref 127) [.ref fa, r]) (MadeQ prog w h₀ L m s it fo fa fd io oo rest es i k o b) E s := by
  have sub : ∀ {q : Addr × Obj}, q ∈ rest → q ∈ ((it, io) :: (fo, oo) :: rest : Led) := fun h => .tail _ (.tail _ h)
  refine load_of (rl := rest) (rest := (it, io) :: (fo, oo) :: rest) hmk hk ho hF (fun _ h => sub h) hr (forall_in_cons (fun p hp => hA.hit p (List.mem_append_left _ hp)) (forall_in_cons (fun p hp => hA.hfo p (List.mem_append_left _ hp)) hA.hfl)) (fun x hx => ⟨(hK.keys x hx).1.mono fun _ h => sub h, (hK.keys x hx).2⟩)
    (fun x hx => by obtain ⟨x0, o, e, _⟩ := hK.vals x hx; exact ⟨x0, e⟩) (Nat.le_trans hx (Nat.le_trans hi (by rw [sizeLine_eq]; exact Nat.le_of_ble_eq_true rfl))) dp un gd cn cs a ccd cl A₀ h₀ L m s _ E B F X (fun q hq => N q ?_) T hkd hdp hun ?_ ?_
  · simp only [ledA, List.mem_append, List.mem_cons] at hq ⊢
    rcases hq with h | h | h | h <;> simp [h]
  · intro ka0 x0 h' tk' hat F' N'
    obtain ⟨e, he, e12, e8, ex, ek⟩ := hK.back _ (atKey_mem hat)
    have hx0 : x0 = e.x := Value.ref.inj ex
    have hkk : keyOf (refD k o b) = keyOf (refD e.k e.o e.b) := Dt.tup.inj ek
    have hrr := (key_inj hk e12 ho e8 b e.b).mp hkk
    obtain ⟨v, h1, h2, tA, n, dueV, _, _, hpr, hdv, _⟩ := hE.of_mem he
    obtain ⟨p1, p2, p3⟩ := refR hk ho b
    obtain ⟨q1, q2, q3⟩ := refR e12 e8 e.b
    rw [hrr] at p1 p2 p3
    refine ⟨x0, e.dv, FL, xs, [], h', tk', rfl, rfl, F', fun q hq => N' q ?_, hA, hF, hK.again (e := ⟨k, o, b, x0, e.dv⟩) hat, Nat.le_succ_of_le hx, ?_, ?_⟩
    · simp only [ledA, List.nil_append, List.mem_append, List.mem_cons] at hq ⊢
      rcases hq with h | h | h | h <;> simp [h]
    · rw [← p1, q1, ← p2, q2, ← p3, q3, hx0]
      exact hpr
    · rw [data_ref hk, hrr, ← data_ref e12]
      exact hdv
  · intro x tl FL' kk h' tk' hn hF' F' N' h1 h2 hp hkk
    obtain ⟨dd, es', n', t', m1, m2, rr⟩ := id hp
    refine ⟨x, r, FL', _, tl, h', tk', rfl, rfl, F', fun q hq => N' q ?_, ⟨fun q hq => h1 q ?_, fun q hq => ?_, fun q hq => ?_, hA.hoi⟩, hF', ?_, ?_, hp.mono fun _ h => List.mem_append_left _ h, ?_⟩
    · simp only [ledA, List.mem_append, List.mem_cons] at hq ⊢
      rcases hq with h | h | h | h | h <;> simp [h]
    · rcases List.mem_append.mp hq with h | h
      · exact List.mem_append_left _ h
      · exact List.mem_append_right _ (sub h)
    · rcases List.mem_append.mp hq with h | h
      · exact h1 (fo, oo) (List.mem_append_right _ (.tail _ (.head _))) q h
      · rcases List.mem_append.mp h with h | h
        · exact h2 (fo, oo) (.tail _ (.head _)) q h
        · exact hA.hfo q (List.mem_append_right _ h)
    · rcases List.mem_append.mp hq with h | h
      · exact h1 (it, io) (List.mem_append_right _ (.head _)) q h
      · rcases List.mem_append.mp h with h | h
        · exact h2 (it, io) (.head _) q h
        · exact hA.hit q (List.mem_append_right _ h)
    · refine (hK.mono fun _ h => List.mem_append_right _ h).more (e := ⟨k, o, b, x, r⟩) hn hk ho hkk (key_ok hk ho b) (List.mem_append_left _ m1) fun y hy he => ?_
      obtain ⟨x0, oy, ey, my⟩ := hK.vals y hy
      rw [ey] at he
      have : x0 = x := Value.ref.inj he
      exact h2 (x0, oy) (sub my) _ m1 this.symm
    · rw [storedH_len hn]
      exact Nat.succ_le_succ hx
    · rw [data_ref hk]
      exact hr.mono fun _ h => List.mem_append_right _ h
theorem made_lost (hmk : Marks hd.heap_39 PySem.Challenge.rw_vy0039_01) {i : Nat} {o : List UInt8} (ho : o.length = 8) {b : Str} {it fo fa fd : Addr} {io oo : Obj} {FL rest : Led} {xs : List (Dt × Addr × Value)} {es : List Ent} {r : Value}
    (hF : FacIs prog w fa fd FL xs) (hK : FacKeys rest xs es) (hx : xs.length ≤ i) (hr : DIn rest r (refD 12 o b)) (hA : Ap it fo FL rest)
    (dp un : Nat) (gd : Option (List Code)) (cn : Str) (cs : Scope) (a : Addr) (ccd : Value) (cl : List (Str × Addr)) (A₀ : Around) (h₀ : Heap) (L : Addr) (m : Str → Option Value) (s : Shared) (E : Value → Shared → Prop)
    (B : Below A₀ h₀ [] h₀) (F : Fr h₀ L s.heap m) (X : (hd.heap_39 w.params).In h₀) (N : News h₀ L s.heap (ledA it io fo oo FL rest)) (T : Top p loose mean mg mb h₀) (hkd : cs.kind = .function) (hdp : dp + 40 < recursionLimit) (hun : un + 320 < cLine) :
    wpAny (model prog w) (ktrTop dp un gd cn cs L a ccd cl []) (call (.ref 109) [r]) (MadeQ prog w h₀ L m s it fo fa fd io oo rest es i 12 o b) E s := by
  refine made_of hmk (by decide) ho (news := ledA it io fo oo FL rest) (rl := rest) (fun _ h => ledA_rest h) hr dp un gd cn cs a ccd cl [] A₀ h₀ h₀ L m s _ E B F X N T hkd X T ktsDicts_nil (by omega) (by omega) ?_
  rintro v tl h₀' h' tk' T' B' F' N' ne ⟨x, dv, rfl, hp, hdv⟩
  obtain ⟨F2, N2⟩ := turn_back T' F' N'
  refine ⟨x, dv, FL, xs, tl, h', tk', rfl, rfl, F2, ledA_absorb N2, hA.absorb ne, hF, (hK.mono fun _ h => List.mem_append_right _ h).lost (e := ⟨12, o, b, x, dv⟩) (Nat.lt_irrefl 12), Nat.le_succ_of_le hx, hp.mono fun _ h => List.mem_append_left _ h, hdv⟩
theorem made_out {A : Around} {E : Value → Shared → Prop} {s : Shared} {c : Sem Value} {Q : Value → Shared → Prop} {h₀ : Heap} {L : Addr} {m : Str → Option Value} {it fo fa fd : Addr} {io oo : Obj} {rest : Led} {es : List Ent} {i k : Nat} {o : List UInt8} {b : Str}
    (F : Fr h₀ L s.heap m) (h : wpAny (model prog w) A c (MadeQ prog w h₀ L m s it fo fa fd io oo rest es i k o b) E s)
    (q : ∀ x dv FL xs tl h' tk, Fr h₀ L h' m → News h₀ L h' (ledA it io fo oo FL (tl ++ rest)) → Ap it fo FL (tl ++ rest) → FacIs prog w fa fd FL xs → FacKeys (tl ++ rest) xs (es ++ [⟨k, o, b, x, dv⟩]) → xs.length ≤ i + 1 →
      IsPR (tl ++ rest) x dv (oidOf k o) (dbOf k b) (weakOf k) → DIn (tl ++ rest) dv (dataOf k o b) → Q (.ref x) { s with heap := h', toks := tk }) : wpAny (model prog w) A c Q E s :=
  wpAny_mono h (fun v s' h' => by
    obtain ⟨x, dv, FL, xs, tl, h1, tk, rfl, rfl, a, b, c, d, e, f, g, i⟩ := h'
    exact q x dv FL xs tl h1 tk a b c d e f g i) fun _ _ e => e
end
/-- the factory's own objects -/
theorem FacIs.own {prog : Program} {w : World} {fa fd : Addr} {FL : Led} {xs : List (Dt × Addr × Value)} (h : FacIs prog w fa fd FL xs) :
    ∃ es n, (fa, instObj 130 fd) ∈ FL ∧ (fd, dictOf es n) ∈ FL ∧ getL "persistent_load" es = some none := by
  rcases h with h | @⟨kd, hh, t0, n, KO, _, h1, h2, h3, hT, lo⟩
  · exact ⟨[], 0, .head _, .tail _ (.head _), by k_get⟩
  · exact ⟨_, n, .head _, .tail _ (.head _), by k_get⟩
end Mine
end
section
open PySem PySem.W PyProof.Rows
namespace Mine
open scoped Classical
set_option maxRecDepth 100000
set_option linter.unusedVariables false
open PySem.SeqAt
section
variable {prog : Program} {w : World} {A : Around} {E : Value → Shared → Prop} {s : Shared} {h₀ : Heap} {L : Addr} {m : Str → Option Value} {news : Led}
theorem wpAny_compareOp_ne {M : Model} {a b : Value} {Q : Value → Shared → Prop} (h : wpAny M A (richCompare .NotEq a b) Q E s) : wpAny M A (compareOp .NotEq a b) Q E s := h
/-- two tuples, unequal or not -/
theorem ne_tup {k : Bool} {n : Nat} {a b : Addr} {vs us : List Value} {ds es : List Dt} {na nb : Nat} {Q : Value → Shared → Prop} (N : News h₀ L s.heap news) (ha : (a, ({ cls := .type "tuple", data := .seq vs.toArray na } : Obj)) ∈ news) (hb : (b, ({ cls := .type "tuple", data := .seq us.toArray nb } : Obj)) ∈ news)
    (da : DAll news vs ds) (db : DAll news us es) (ka : ∀ d ∈ ds, okD k n d = true) (kb : ∀ d ∈ es, okD k n d = true) (hu : A.units + (n + 1) < cLine) (h : Q (.bool (!decide (ds = es))) s) :
    wpAny (model prog w) A (compareOp .NotEq (.ref a) (.ref b)) Q E s := by
  have ra := rd_all N n da ka
  have rb := rd_all N n db kb
  have ta : s.heap.IsTuple a vs.toArray := ⟨_, N.get ha, rfl, _, rfl⟩
  have tb : s.heap.IsTuple b us.toArray := ⟨_, N.get hb, rfl, _, rfl⟩
  refine wpAny_compareOp_ne (RcNeAt.tuples ta tb (e := fun j => decide (ds[j]? = es[j]?)) (by omega) (fun j j1 j2 => ?_) prog w E Q ?_)
  · simp only [List.size_toArray] at j1 j2
    have l1 : j < ds.length := by rw [← ra.length]; exact j1
    have l2 : j < es.length := by rw [← rb.length]; exact j2
    have z := (data_eq (s := s) k n A.in1 _ _ _ _ (ka _ (List.getElem_mem l1)) (kb _ (List.getElem_mem l2)) (by simp only [Around.in1_units]; omega) (ra.get j j1 l1) (rb.get j j2 l2)).2
    have e2 : decide (ds[j]? = es[j]?) = decide (ds[j] = es[j]) := by rw [List.getElem?_eq_getElem l1, List.getElem?_eq_getElem l2]; simp
    rw [e2]
    simpa using z
  · rw [List.size_toArray, List.size_toArray, ra.length, rb.length, all_range_eq]
    exact h
/-- two lists, unequal or not -/
theorem ne_lst {k : Bool} {n : Nat} {a b : Addr} {vs us : List Value} {ds es : List Dt} {na nb : Nat} {Q : Value → Shared → Prop} (N : News h₀ L s.heap news) (ha : (a, listOf vs.toArray na) ∈ news) (hb : (b, listOf us.toArray nb) ∈ news)
    (da : DAll news vs ds) (db : DAll news us es) (ka : ∀ d ∈ ds, okD k n d = true) (kb : ∀ d ∈ es, okD k n d = true) (hl : ds.length = es.length) (hu : A.units + (n + 1) < cLine) (h : Q (.bool (!decide (ds = es))) s) :
    wpAny (model prog w) A (compareOp .NotEq (.ref a) (.ref b)) Q E s := by
  have ra := rd_all N n da ka
  have rb := rd_all N n db kb
  have ta : s.heap.IsList a vs.toArray := ⟨_, N.get ha, rfl, _, rfl⟩
  have tb : s.heap.IsList b us.toArray := ⟨_, N.get hb, rfl, _, rfl⟩
  refine wpAny_compareOp_ne (RcNeAt.lists ta tb (e := fun j => decide (ds[j]? = es[j]?)) (by simp only [List.size_toArray]; rw [ra.length, rb.length, hl]) (by omega) (fun j j1 j2 => ?_) prog w E Q ?_)
  · simp only [List.size_toArray] at j1 j2
    have l1 : j < ds.length := by rw [← ra.length]; exact j1
    have l2 : j < es.length := by rw [← rb.length]; exact j2
    have z := (data_eq (s := s) k n A.in1 _ _ _ _ (ka _ (List.getElem_mem l1)) (kb _ (List.getElem_mem l2)) (by simp only [Around.in1_units]; omega) (ra.get j j1 l1) (rb.get j j2 l2)).2
    have e2 : decide (ds[j]? = es[j]?) = decide (ds[j] = es[j]) := by rw [List.getElem?_eq_getElem l1, List.getElem?_eq_getElem l2]; simp
    rw [e2]
    simpa using z
  · have z := all_range_eq ds es
    rw [hl, Nat.min_self, beq_self_eq_true, Bool.and_true] at z
    rw [List.size_toArray, ra.length, hl, z]
    exact h
/-- any two data of the ledger -/
theorem eq_dat {k : Bool} {n : Nat} {v u : Value} {d e : Dt} {Q : Value → Shared → Prop} (N : News h₀ L s.heap news) (hv : DIn news v d) (hu : DIn news u e) (kd : okD k n d = true) (ke : okD k n e = true) (hr : A.units + n < cLine) (h : Q (.bool (decide (d = e))) s) :
    wpAny (model prog w) A (compareOp .Eq v u) Q E s :=
  (data_eq (s := s) k n A v u d e kd ke hr (rd_of N n hv kd) (rd_of N n hu ke)).1 prog w E Q h
theorem sliceApplied_to2 {sl : Addr} {u : Tok} {Q : Int × Int × Nat → Shared → Prop} (hs : s.heap.IsSliceOf sl .none (.int 2 u) .none) (h : Q ((0 : Int), 1, 2) s) :
    wpAny (model prog w) A (Builtin.Slice.sliceApplied (.ref sl) (pure (5 : Int))) Q E s := by
  obtain ⟨os, hos, hcs, hds⟩ := id hs
  unfold Builtin.Slice.sliceApplied Builtin.Slice.sliceFields
  refine wpAny_bind (wpAny_bind (wpAny_field hos hds (x := .none) rfl (wpAny_bind (wpAny_field hos hds (x := .int 2 u) rfl (wpAny_bind (wpAny_field hos hds (x := .none) rfl (wpAny_pure ?_)))))))
  refine wpAny_bind (slicePart_none ?_)
  show wpAny _ _ (if ((1 : Int) == 0) = true then _ else _) _ _ s
  rw [if_neg (by decide)]
  refine wpAny_bind (slicePart_none (wpAny_bind (slicePart_int (wpAny_bind (wpAny_pure ?_)))))
  exact wpAny_pure h
theorem getItem_tuple_to2 {t sl : Addr} {a b c d e : Value} {u : Tok} {Q : Value → Shared → Prop} (ht : IsTup s.heap t #[a, b, c, d, e]) (hs : s.heap.IsSliceOf sl .none (.int 2 u) .none)
    (h : Q (.ref s.heap.objs.size) { s with heap := s.heap.push { cls := .type "tuple", data := .seq #[a, b] } }) : wpAny (model prog w) A (getItem (.ref t) (.ref sl)) Q E s := by
  have hdrop : sizeOk (.seq #[a, b]) := by
    show 2 ≤ sizeLine
    rw [sizeLine_eq]; exact Nat.le_of_ble_eq_true rfl
  obtain ⟨os, hos, hcs, hds⟩ := id hs
  have hTs : s.TypeIs (.ref sl) "slice" := ⟨os, hos, hcs⟩
  unfold getItem
  try with_reducible refine wpAny_holding ?_
  first | refine wpAny_bind (wpAny_pure ?_) | skip
  refine wpAny_bind (wpAny_sequenceKey ht.typeIs (by decide) ?_)
  refine wpAny_bind (wpAny_callSpecial?_slot (name := Str.ofString "__getitem__") ht.typeIs slot_tuple_getitem
    (wpAny_call_entry slot_tuple_getitem ht.typeIs entry_tuple_getitem ?_ (args_tuple_getitem _ _)))
  show wpAny _ _ (Builtin.Tuple.tupleItemsOf (.ref t) >>= _) _ _ s
  refine wpAny_bind (tupleItemsOf_ ht ?_)
  refine wpAny_bind (wpAny_typeOf hTs ?_)
  rw [if_pos (by decide)]
  refine wpAny_bind (sliceApplied_to2 hs ?_)
  show wpAny _ _ (if false = true then _ else _) _ _ s
  rw [if_neg (by decide)]
  first
    | exact wpAny_bind (m := Builtin.Tuple.tupleExact _) (wpAny_newObj_type (wpAny_pure ⟨_, rfl, wpAny_pure h⟩) hdrop)
    | exact wpAny_bind (m := Builtin.Tuple.tupleExact _) (wpAny_newObj_type (wpAny_bind (wpAny_pure (wpAny_pure ⟨_, rfl, wpAny_pure h⟩))) hdrop)
    | exact wpAny_bind (wpAny_bind (m := Builtin.Tuple.tupleExact _) (wpAny_newObj_type (wpAny_pure (wpAny_pure ⟨_, rfl, wpAny_pure h⟩)) hdrop))
    | exact wpAny_bind (wpAny_bind (m := Builtin.Tuple.tupleExact _) (wpAny_newObj_type (wpAny_pure ⟨_, rfl, wpAny_pure h⟩) hdrop))
/-- t[:2] of five -/
theorem slice_to2 {value slice : Expr} {t : Addr} {a b c d e : Value} {u : Tok} {n : Nat} {Q : Value → Shared → Prop}
    (F : Fr h₀ L s.heap m) (N : News h₀ L s.heap news) (hm : (t, ({ cls := .type "tuple", data := .seq #[a, b, c, d, e] n } : Obj)) ∈ news)
    (h : ∀ D h', Fr h₀ L h' m → News h₀ L h' ((D, { cls := .type "tuple", data := .seq #[a, b] }) :: news) → (∀ p ∈ news, p.1 < D) → Q (.ref D) { s with heap := h' })
    (hs : subscripted slice false (.ref t) (.ref s.heap.objs.size) = operate [.ref s.heap.objs.size, .ref t] (getItem (.ref t) (.ref s.heap.objs.size)) := by with_unfolding_all rfl)
    (hg : ∀ r, letTemporaryGo value (.ref t) r = pure () := by intro _; with_unfolding_all rfl) :
    wpAny (model prog w) A (subscriptTail value slice (.ref t) (.ref s.heap.objs.size)) Q E { s with heap := s.heap.push { cls := .type "slice", data := .fields #[.none, .int 2 u, .none] } } := by
  have ht : IsTup s.heap t #[a, b, c, d, e] := ⟨_, N.get hm, rfl, _, rfl⟩
  have ht' : IsTup (s.heap.push { cls := .type "slice", data := .fields #[.none, .int 2 u, .none] }) t #[a, b, c, d, e] := ht.keeps fun _ _ e => Heap.get?_push_of_some _ e
  refine subscriptTail_ops (s := { s with heap := s.heap.push { cls := .type "slice", data := .fields #[.none, .int 2 u, .none] } }) ht'.typeIs slot_tuple_getitem.lookup
    (getItem_tuple_to2 ht' (Heap.IsSliceOf.new ..) ?_) hs hg
  have N1 := News.push (F.push { cls := .type "slice", data := .fields #[.none, .int 2 u, .none] }) (N.grown fun _ _ e => Heap.get?_push_of_some _ e) { cls := .type "tuple", data := .seq #[a, b] }
  rw [Heap.size_push] at N1
  show Q (.ref (s.heap.push _).objs.size) _
  rw [Heap.size_push]
  exact h _ _ ((F.push _).push _) N1 fun p hp => Nat.lt_succ_of_lt (Heap.lt_size (N p hp).1)
end
end Mine
end
section
open PySem PySem.W PyProof.Rows
namespace Mine
open scoped Classical
set_option maxRecDepth 100000
set_option linter.unusedVariables false
set_option linter.unusedSimpArgs false
set_option maxHeartbeats 4000000
theorem form12 {n : Int} (h : n.fmod 13 = 12) : formOf n = 12 := formOf_of h
theorem form_lt {n : Int} (h : ¬ n.fmod 13 = 12) : formOf n < 12 := by
  have h1 := Int.fmod_nonneg_of_pos n (b := 13) (by decide)
  have h2 := Int.fmod_lt_of_pos n (b := 13) (by decide)
  unfold formOf; omega
theorem form_dec (n : Int) : (n.fmod 13 == 12) = decide (formOf n = 12) := by
  by_cases h : n.fmod 13 = 12
  · rw [decide_eq_true (form12 h)]; exact beq_iff_eq.mpr h
  · rw [decide_eq_false (Nat.ne_of_lt (form_lt h))]; exact beq_eq_false_iff_ne.mpr h
section
variable {prog : Program} {w : World} {p : Program} {loose : List Str} {mean : ExcName → Option Value} {mg mb : Str → Option Value}
theorem made_lost' (hmk : Marks hd.heap_39 PySem.Challenge.rw_vy0039_01) {i k : Nat} (hk : k = 12) {o : List UInt8} (ho : o.length = 8) {b : Str} {it fo fa fd : Addr} {io oo : Obj} {FL rest : Led} {xs : List (Dt × Addr × Value)} {es : List Ent} {r : Value}
    (hF : FacIs prog w fa fd FL xs) (hK : FacKeys rest xs es) (hx : xs.length ≤ i) (hr : DIn rest r (refD k o b)) (hA : Ap it fo FL rest)
    (dp un : Nat) (gd : Option (List Code)) (cn : Str) (cs : Scope) (a : Addr) (ccd : Value) (cl : List (Str × Addr)) (A₀ : Around) (h₀ : Heap) (L : Addr) (m : Str → Option Value) (s : Shared) (E : Value → Shared → Prop)
    (B : Below A₀ h₀ [] h₀) (F : Fr h₀ L s.heap m) (X : (hd.heap_39 w.params).In h₀) (N : News h₀ L s.heap (ledA it io fo oo FL rest)) (T : Top p loose mean mg mb h₀) (hkd : cs.kind = .function) (hdp : dp + 40 < recursionLimit) (hun : un + 320 < cLine) :
    wpAny (model prog w) (ktrTop dp un gd cn cs L a ccd cl []) (call (.ref 109) [r]) (MadeQ prog w h₀ L m s it fo fa fd io oo rest es i k o b) E s := by
  subst hk
  exact made_lost hmk ho hF hK hx hr hA dp un gd cn cs a ccd cl A₀ h₀ L m s E B F X N T hkd hdp hun
/-- told again, by a reference written alike: the same -/
theorem made_again (hmk : Marks hd.heap_39 PySem.Challenge.rw_vy0039_01) {k i : Nat} (hk : k < 12) {o : List UInt8} (ho : o.length = 8) {b : Str} {it fo fa fd x : Addr} {dv : Value} {io oo : Obj} {FL rest : Led} {xs : List (Dt × Addr × Value)} {es : List Ent} {r : Value}
    (hF : FacIs prog w fa fd FL xs) (hK : FacKeys rest xs es) (he : (⟨k, o, b, x, dv⟩ : Ent) ∈ es) (hx : xs.length ≤ i) (hi : i ≤ 100) (hr : DIn rest r (refD k o b)) (hA : Ap it fo FL rest)
    (dp un : Nat) (gd : Option (List Code)) (cn : Str) (cs : Scope) (a : Addr) (ccd : Value) (cl : List (Str × Addr)) (A₀ : Around) (h₀ : Heap) (L : Addr) (m : Str → Option Value) (s : Shared) (Q E : Value → Shared → Prop)
    (B : Below A₀ h₀ [] h₀) (F : Fr h₀ L s.heap m) (X : (hd.heap_39 w.params).In h₀) (N : News h₀ L s.heap (ledA it io fo oo FL rest)) (T : Top p loose mean mg mb h₀) (hkd : cs.kind = .function) (hdp : dp + 40 < recursionLimit) (hun : un + 320 < cLine)
    (q : ∀ h' tk', Fr h₀ L h' m → News h₀ L h' (ledA it io fo oo FL rest) → Q (.ref x) { s with heap := h', toks := tk' }) :
    wpAny (model prog w) (ktrTop dp un gd cn cs L a ccd cl []) (call (.ref 127) [.ref fa, r]) Q E s := by
  have sub : ∀ {q : Addr × Obj}, q ∈ rest → q ∈ ((it, io) :: (fo, oo) :: rest : Led) := fun h => .tail _ (.tail _ h)
  obtain ⟨ka, hka⟩ := hK.link _ he hk
  refine load_of (rl := rest) (rest := (it, io) :: (fo, oo) :: rest) hmk hk ho hF (fun _ h => sub h) hr (forall_in_cons (fun p hp => hA.hit p (List.mem_append_left _ hp)) (forall_in_cons (fun p hp => hA.hfo p (List.mem_append_left _ hp)) hA.hfl)) (fun x hx => ⟨(hK.keys x hx).1.mono fun _ h => sub h, (hK.keys x hx).2⟩)
    (fun x hx => by obtain ⟨x0, o, e, _⟩ := hK.vals x hx; exact ⟨x0, e⟩) (Nat.le_trans hx (Nat.le_trans hi (by rw [sizeLine_eq]; exact Nat.le_of_ble_eq_true rfl))) dp un gd cn cs a ccd cl A₀ h₀ L m s _ E B F X (fun q hq => N q ?_) T hkd hdp hun ?_ ?_
  · simp only [ledA, List.mem_append, List.mem_cons] at hq ⊢
    rcases hq with h | h | h | h <;> simp [h]
  · intro ka0 x0 h' tk' hat F' N'
    have e : atKey xs (.tup (keyOf (refD k o b))) = some (ka, .ref x) := hka
    rw [e] at hat
    have : x = x0 := Value.ref.inj (Prod.mk.inj (Option.some.inj hat)).2
    subst this
    refine q h' tk' F' fun q hq => N' q ?_
    simp only [ledA, List.mem_append, List.mem_cons] at hq ⊢
    rcases hq with h | h | h | h <;> simp [h]
  · intro x2 tl FL' kk h' tk' hn
    have e : atKey xs (.tup (keyOf (refD k o b))) = some (ka, .ref x) := hka
    rw [e] at hn
    cases hn
theorem handedOut_din {M : Model} {A : Around} {E : Value → Shared → Prop} {s : Shared} {Q : Value → Shared → Prop} {led : Led} {v : Value} {d : Dt} (hv : DIn led v d) (h : Q v s) : wpAny M A (handedOut v) Q E s := by
  cases hv <;> exact wpAny_pure h
theorem handed_din {led : Led} {v : Value} {d : Dt} (hv : DIn led v d) : handedIn v = true := by
  cases hv <;> rfl
/-- x.klass -/
theorem attr_klass (hmk : Marks hd.heap_39 PySem.Challenge.rw_vy0039_01) {k : Nat} (hk : k < 13) {o : List UInt8} {b : Str} {x dx : Addr} {es : List DictEntry} {n : Nat} {dv : Value} {news : Led} (h1 : (x, instObj 109 dx) ∈ news) (h2 : (dx, dictOf es n) ∈ news) (hdv : getL "data" es = some (some dv)) (hdd : DIn news dv (dataOf k o b)) (expr : Bool)
    (dp un : Nat) (gd : Option (List Code)) (cn : Str) (cs : Scope) (a : Addr) (ccd : Value) (cl : List (Str × Addr)) (A₀ : Around) (h₀ : Heap) (L : Addr) (m : Str → Option Value) (s : Shared) (Q E : Value → Shared → Prop)
    (B : Below A₀ h₀ [] h₀) (F : Fr h₀ L s.heap m) (X : (hd.heap_39 w.params).In h₀) (N : News h₀ L s.heap news) (T : Top p loose mean mg mb h₀) (hkd : cs.kind = .function) (hdp : dp + 40 < recursionLimit) (hun : un + 320 < cLine)
    (q : ∀ v h' tk', Fr h₀ L h' m → News h₀ L h' news → DIn news v (klsOf k b) → Q v { s with heap := h', toks := tk' }) :
    wpAny (model prog w) (ktrTop dp un gd cn cs L a ccd cl []) (getAttr (.ref x) "klass" expr) Q E s := by
  have kc := klass_of (prog := prog) (w := w) (p := p) (loose := loose) (mean := mean) (mg := mg) (mb := mb) hmk hk h1 h2 hdv hdd
  have I : InstAt s.heap x (instObj 109 dx) 109 (some (dictOf es n)) := InstAt.of_news N h1 h2
  revert hmk
  k_fill
  intro _
  refine' get_prop F X I ?k4 ?k5 ?k6 ?k7 ?k8 ?k9 ?_
  case k4 => k_is
  case k5 => k_is
  case k6 => k_is
  case k7 => k_is
  case k8 => k_is
  case k9 => k_is
  exact kc dp (un + 1) gd cn cs a ccd cl [] A₀ h₀ h₀ L m _ _ B F X N T hkd (by omega) (by omega) fun v h' tk' F' N' hv => handedOut_din hv (q v h' tk' F' N' hv)
theorem okD_data (k : Nat) (o : List UInt8) (b : Str) : okD false 3 (dataOf k o b) = true := by
  unfold dataOf
  split
  all_goals first | rfl | skip
theorem okD_db (k : Nat) (b : Str) : okD false 3 (dbOf k b) = true := by
  unfold dbOf
  split <;> rfl
theorem okD_kls (k : Nat) (b : Str) : okD false 3 (klsOf k b) = true := by
  unfold klsOf
  split <;> rfl
theorem DbV.din {led : Led} {v : Value} {d : Dt} (h : DbV v d) : DIn led v d := by
  cases h
  · exact .none
  · exact .str _ _
theorem dbD (k : Nat) (b : Str) : DbD (dbOf k b) := by
  unfold dbOf
  split <;> first | exact .inl rfl | exact .inr ⟨_, rfl⟩
/-- what is told against what is due -/
theorem ne_due {A : Around} {E : Value → Shared → Prop} {s : Shared} {h₀ : Heap} {L : Addr} {news : Led} {k : Nat} {o : List UInt8} {b : Str} {t a : Addr} {v1 v3 v4 : Value} {tk : Tok} {n na : Nat} {us : List Value} {Q : Value → Shared → Prop}
    (N : News h₀ L s.heap news) (hu : A.units + 4 < cLine) (hm : (t, ({ cls := .type "tuple", data := .seq #[.bytes (oidOf k o).toArray tk, v1, .bool (weakOf k), v3, v4] n } : Obj)) ∈ news)
    (ha : (a, ({ cls := .type "tuple", data := .seq us.toArray na } : Obj)) ∈ news) (hus : DAll news us [.bytes (oidOf k o), dbOf k b, .bool (weakOf k), klsOf k b, dataOf k o b]) (h1 : DbV v1 (dbOf k b)) (h3 : DIn news v3 (klsOf k b)) (h4 : DIn news v4 (dataOf k o b)) (h : Q (.bool false) s) :
    wpAny (model prog w) A (compareOp .NotEq (.ref t) (.ref a)) Q E s := by
  have ok : ∀ d ∈ [.bytes (oidOf k o), dbOf k b, .bool (weakOf k), klsOf k b, dataOf k o b], okD false 3 d = true :=
    forall_in_cons rfl (forall_in_cons (okD_db k b) (forall_in_cons rfl (forall_in_cons (okD_kls k b) (forall_in_cons (okD_data k o b) forall_in_nil))))
  refine ne_tup (vs := [.bytes (oidOf k o).toArray tk, v1, .bool (weakOf k), v3, v4]) (k := false) (n := 3) N hm ha (.cons (.bytes _ _) (.cons h1.din (.cons (.bool _) (.cons h3 (.cons h4 .nil))))) hus ok ok hu ?_
  rw [decide_eq_true rfl]
  exact h
end
end Mine
end
section
open PySem PySem.W PyProof.Rows
namespace Mine
open scoped Classical
set_option maxRecDepth 100000
set_option linter.unusedVariables false
section
variable {prog : Program} {w : World} {A : Around} {E : Value → Shared → Prop} {s : Shared} {h₀ : Heap} {L : Addr} {m : Str → Option Value}
abbrev triO (x : Addr) (d : Value) (b : Bool) (n : Nat) : Obj := { cls := .type "tuple", data := .seq #[.ref x, d, .bool b] n }
/-- found.append(..) -/
theorem append_turn {it fo tA : Addr} {io oA : Obj} {vs : List Value} {nf i : Nat} {FL rest news : Led} {Q : Value → Shared → Prop} (F : Fr h₀ L s.heap m) (N : News h₀ L s.heap news) (sub : ∀ p ∈ ((tA, oA) :: ledA it io fo (listOf vs.toArray nf) FL rest : Led), p ∈ news)
    (A : Ap it fo FL rest) (hl : ∀ p ∈ ledA it io fo (listOf vs.toArray nf) FL rest, @LT.lt Nat _ p.1 tA) (hi : vs.length = i) (hi9 : i ≤ 100)
    (h : ∀ h', Fr h₀ L h' m → News h₀ L h' ((it, io) :: (fo, listOf (vs ++ [Value.ref tA]).toArray (nf + 1)) :: (FL ++ ((tA, oA) :: rest))) → Q .none { s with heap := h' }) {B : Around} :
    wpAny (model prog w) B (call (.builtin "list.append") [.ref fo, .ref tA]) Q E s := by
  have N1 : News h₀ L s.heap ((fo, listOf vs.toArray nf) :: ((it, io) :: (FL ++ ((tA, oA) :: rest)))) := fun p hp => N p (sub p (by
    simp only [ledA, List.mem_append, List.mem_cons] at hp ⊢
    rcases hp with h | h | h | h | h <;> simp [h]))
  refine append_K F N1 (.head ?_) (fun h' F' N' => h h' F' fun p hp => N' p ?_) ?_
  · refine forall_in_cons (Ne.symm A.hoi) fun q hq => ?_
    rcases List.mem_append.mp hq with hq | hq
    · exact A.hfo q (List.mem_append_left _ hq)
    · rcases List.mem_cons.mp hq with rfl | hq
      · exact Nat.ne_of_gt (hl (fo, listOf vs.toArray nf) (.tail _ (.head _)))
      · exact A.hfo q (List.mem_append_right _ hq)
  · rw [List.push_toArray]
    simp only [List.mem_append, List.mem_cons] at hp ⊢
    rcases hp with h | h | h | h | h <;> simp [h]
  · rw [List.size_toArray, hi, sizeLine_eq]
    exact Nat.le_trans hi9 (Nat.le_of_ble_eq_true rfl)
theorem mL_off {c mm : Str → Option Value} {y : Str} (h : y ∉ namesA) : mL c mm y = mm y := if_neg h
/-- the turn's end -/
theorem turn_end {it fa fd fo tA x : Addr} {io : Obj} {d : Value} {dv : Value} {vs : List Value} {es : List Ent} {nf nt i tk : Nat} {xs : List (Dt × Addr × Value)} {FL rest base : Led} {mm M : Str → Option Value} {h' : Heap} {s3 : Shared} {k : Nat} {o : List UInt8} {b : Str} {lb : Bool}
    (hs : s3 = { s with heap := h', toks := tk }) (F : Fr h₀ L h' M) (N : News h₀ L h' ((it, io) :: (fo, listOf (vs ++ [Value.ref tA]).toArray (nf + 1)) :: (FL ++ ((tA, triO x d lb nt) :: rest)))) (hM : ∀ y, y ∉ namesA → M y = mm y)
    (A : Ap it fo FL rest) (hl : ∀ p ∈ ((it, io) :: (fo, listOf vs.toArray nf) :: (FL ++ rest) : Led), @LT.lt Nat _ p.1 tA) (hi : vs.length = i) (hE : EntsIn rest vs es) (hF : FacIs prog w fa fd FL xs) (hK : FacKeys rest xs (es ++ [⟨k, o, b, x, dv⟩])) (hx : xs.length ≤ i + 1) (hb : ∀ p ∈ base, p ∈ rest)
    (hk : k < 13) (ho : o.length = 8) (hlb : lb = decide (k = 12)) (hp : IsPR rest x dv (oidOf k o) (dbOf k b) (weakOf k)) (hdv : DIn rest dv (dataOf k o b)) (hd : DIn rest d (dueD k o b)) :
    ∃ g' m' led' h' tk', StA prog w h₀ fa fd fo mm base (i + 1) g' m' led' ∧ Fr g' L h' m' ∧ News g' L h' ((it, io) :: led') ∧ (∀ p ∈ led', p.1 ≠ it) ∧ s3 = { s with heap := h', toks := tk' } := by
  have up : ∀ p ∈ rest, p ∈ ((tA, triO x d lb nt) :: rest : Led) := fun _ h => .tail _ h
  have lfo := hl (fo, listOf vs.toArray nf) (.tail _ (.head _))
  have lit := hl (it, io) (.head _)
  have lfl : ∀ p ∈ FL, @LT.lt Nat _ p.1 tA := fun p hp => hl p (.tail _ (.tail _ (List.mem_append_left _ hp)))
  have off : ∀ {a : Addr}, (∀ q ∈ FL ++ rest, q.1 ≠ a) → @LT.lt Nat _ a tA → ∀ q ∈ FL ++ ((tA, triO x d lb nt) :: rest), q.1 ≠ a := fun h1 h2 q hq => by
    rcases List.mem_append.mp hq with hq | hq
    · exact h1 q (List.mem_append_left _ hq)
    · rcases List.mem_cons.mp hq with rfl | hq
      · exact Nat.ne_of_gt h2
      · exact h1 q (List.mem_append_right _ hq)
  refine ⟨h₀, M, (fo, listOf (vs ++ [Value.ref tA]).toArray (nf + 1)) :: (FL ++ ((tA, triO x d lb nt) :: rest)), h', tk, ⟨rfl, M, nf + 1, vs ++ [Value.ref tA], es ++ [⟨k, o, b, x, dv⟩], FL, xs, (tA, triO x d lb nt) :: rest, mL_of hM, rfl, by simp [hi], ?_, hF, hK.mono up, hx, ?_, off A.hfo lfo, fun p hp => up _ (hb p hp)⟩, F, N, ?_, hs⟩
  · refine (hE.mono up).snoc ⟨hk, ho, tA, nt, d, rfl, ?_, hp.mono up, hdv.mono up, hd.mono up⟩
    rw [← hlb]
    exact .head _
  · intro q hq p hp
    rcases List.mem_cons.mp hq with rfl | hq
    · exact Nat.ne_of_lt (lfl p hp)
    · exact A.hfl q hq p hp
  · exact forall_in_cons A.hoi (off A.hit lit)
end
end Mine
end
section
open PySem PySem.W PyProof.Rows
namespace Mine
open scoped Classical
set_option maxRecDepth 100000
set_option linter.unusedVariables false
/-! data of a ledger do not lie at the table of lambdas -/
def NoTab (p : Addr × Obj) : Prop := p.2.data ≠ .fields #[]
mutual
theorem DIn.off {news news' : Led} (hs : ∀ p ∈ news, NoTab p → p ∈ news') : ∀ {v : Value} {d : Dt}, DIn news v d → DIn news' v d
  | _, _, .none => .none
  | _, _, .bool b => .bool b
  | _, _, .int i t => .int i t
  | _, _, .str x t => .str x t
  | _, _, .bytes b t => .bytes b t
  | _, _, .tup h r => .tup (hs _ h nofun) (DAll.off hs r)
  | _, _, .lst h r => .lst (hs _ h nofun) (DAll.off hs r)
  | _, _, .bad h1 h2 h3 r => .bad (hs _ h1 nofun) (hs _ h2 nofun) (hs _ h3 nofun) (DAll.off hs r)
theorem DAll.off {news news' : Led} (hs : ∀ p ∈ news, NoTab p → p ∈ news') : ∀ {vs : List Value} {ds : List Dt}, DAll news vs ds → DAll news' vs ds
  | _, _, .nil => .nil
  | _, _, .cons h r => .cons (DIn.off hs h) (DAll.off hs r)
end
theorem IsPR.off {news news' : Led} (hs : ∀ p ∈ news, NoTab p → p ∈ news') {x : Addr} {dv : Value} {o : List UInt8} {db : Dt} {wk : Bool} (h : IsPR news x dv o db wk) : IsPR news' x dv o db wk :=
  let ⟨d, es, n, t, h1, h2, r⟩ := h; ⟨d, es, n, t, hs _ h1 nofun, hs _ h2 nofun, r⟩
theorem EntIn.off {led led' : Led} (h : ∀ p ∈ led, NoTab p → p ∈ led') {v : Value} {e : Ent} (x : EntIn led v e) : EntIn led' v e := by
  obtain ⟨a, b, tA, n, dueV, c, d, f, g, i⟩ := x
  exact ⟨a, b, tA, n, dueV, c, h _ d nofun, f.off h, g.off h, i.off h⟩
theorem EntsIn.off {led led' : Led} (h : ∀ p ∈ led, NoTab p → p ∈ led') : ∀ {vs : List Value} {es : List Ent}, EntsIn led vs es → EntsIn led' vs es
  | _, _, .nil => .nil
  | _, _, .cons a b => .cons (a.off h) (b.off h)
/-- names that may have changed -/
def mN (ns : List Str) (c mm : Str → Option Value) : Str → Option Value := fun y => if y ∈ ns then c y else mm y
theorem mN_of {ns : List Str} {M mm : Str → Option Value} (h : ∀ y, y ∉ ns → M y = mm y) : M = mN ns M mm := by
  funext y
  unfold mN
  split
  · rfl
  · exact h y ‹_›
theorem mN_off {ns : List Str} {c mm : Str → Option Value} {y : Str} (h : y ∉ ns) : mN ns c mm y = mm y := if_neg h
abbrev Apart (TB base : Led) : Prop := ∀ q ∈ base, ∀ p ∈ TB, p.1 ≠ q.1
def StL (ns : List Str) (h₀ : Heap) (mm : Str → Option Value) (base : Led) (i : Nat) (g : Heap) (m : Str → Option Value) (led : Led) : Prop :=
  g = h₀ ∧ ∃ c TB, m = mN ns c mm ∧ led = TB ++ base ∧ LamTab TB ∧ Apart TB base
/-- a loop over the list found -/
theorem law_loopL {prog : Program} {w : World} {A : Around} {env : Env} {L it fo : Addr} {io₀ : Obj} {nf : Nat} {vs : List Value} {s : Shared} {R : Result → Shared → Prop} {target : Expr} {body orelse : List Stmt} {h₀ : Heap} {mm : Str → Option Value} (ns : List Str) (TB₀ base : Led)
    (hA : A.handled = none) (hsrc : (fo, listOf vs.toArray nf) ∈ base) (F : Fr h₀ L s.heap mm) (N : News h₀ L s.heap ((it, io₀) :: (TB₀ ++ base))) (hT : LamTab TB₀) (ap : Apart TB₀ base) (ne : ∀ p ∈ TB₀ ++ base, p.1 ≠ it) (hio : lstIt fo io₀ 0)
    (turn : ∀ i v c TB io h tk, vs[i]? = some v → LamTab TB → Apart TB ((it, io) :: base) → Fr h₀ L h (mN ns c mm) → News h₀ L h (TB ++ ((it, io) :: base)) → lstIt fo io (i + 1) → (∀ p ∈ base, p.1 ≠ it) →
      wpAny (model prog w) A (letOwnedTupleGo target (.ref it) v) (fun _ s₁' =>
        wpAny (model prog w) A (assign target env v) (fun _ s₂ => wpAny (model prog w) A (execs body env) (fun f s₃ => match f with
          | .next | .cont => ∃ c' TB' h' tk', LamTab TB' ∧ Apart TB' ((it, io) :: base) ∧ Fr h₀ L h' (mN ns c' mm) ∧ News h₀ L h' (TB' ++ ((it, io) :: base)) ∧ s₃ = { s with heap := h', toks := tk' }
          | .brk => R (.ok .next) s₃
          | .ret v => R (.ok (.ret v)) s₃) (notedBy (model prog w) A env fun e s' => R (.error e) s') s₂) (notedBy (model prog w) A env fun e s' => R (.error e) s') s₁') (notedBy (model prog w) A env fun e s' => R (.error e) s') { s with heap := h, toks := tk })
    (fin : ∀ c TB h tk, LamTab TB → Apart TB base → Fr h₀ L h (mN ns c mm) → News h₀ L h (TB ++ base) →
      wpAny (model prog w) A (execs orelse env) (fun f s₃ => R (.ok f) s₃) (notedBy (model prog w) A env fun e s' => R (.error e) s') { s with heap := h, toks := tk }) :
    codeAny (model prog w) A (.forLoop target (.ref it) body orelse env) R s := by
  refine for_led (draws_lst (D := fo) (items := vs) (n := nf)) hA (StL ns h₀ mm base) ?src ?turn ?fin F (led₀ := TB₀ ++ base) N ne hio ⟨rfl, mm, TB₀, mN_of fun _ _ => rfl, rfl, hT, ap⟩
  case src =>
    rintro i g m led ⟨_, c, TB, _, rfl, _, _⟩
    exact List.mem_append_right _ hsrc
  case fin =>
    rintro g m led h tk ⟨rfl, c, TB, rfl, rfl, hT, ap⟩ F N
    exact fin c TB h tk hT ap F N
  case turn =>
    rintro i v g m led io h tk hv ⟨rfl, c, TB, rfl, rfl, hT, ap⟩ F N ne hio
    have ap2 : Apart TB ((it, io) :: base) := forall_in_cons (fun p hp => ne p (List.mem_append_left _ hp)) ap
    have ne2 : ∀ p ∈ base, p.1 ≠ it := fun p hp => ne p (List.mem_append_right _ hp)
    have N2 : News g L h (TB ++ ((it, io) :: base)) := fun p hp => N p (by
      simp only [List.mem_append, List.mem_cons] at hp ⊢
      rcases hp with h | h | h <;> simp [h])
    refine wpAny_mono (turn i v c TB io h tk hv hT ap2 F N2 hio ne2) (fun _ s₁ h₁ => ?_) fun _ _ e => e
    refine wpAny_mono h₁ (fun _ s₂ h₂ => ?_) fun _ _ e => e
    refine wpAny_mono h₂ (fun f s₃ h₃ => ?_) fun _ _ e => e
    have go : (∃ c' TB' h' tk', LamTab TB' ∧ Apart TB' ((it, io) :: base) ∧ Fr g L h' (mN ns c' mm) ∧ News g L h' (TB' ++ ((it, io) :: base)) ∧ s₃ = { s with heap := h', toks := tk' }) →
        ∃ g' m' led' h' tk', StL ns g mm base (i + 1) g' m' led' ∧ Fr g' L h' m' ∧ News g' L h' ((it, io) :: led') ∧ (∀ p ∈ led', p.1 ≠ it) ∧ s₃ = { s with heap := h', toks := tk' } := by
      rintro ⟨c', TB', h', tk', a, b, c, d, e⟩
      refine ⟨g, mN ns c' mm, TB' ++ base, h', tk', ⟨rfl, c', TB', rfl, rfl, a, fun q hq => b q (.tail _ hq)⟩, c, fun p hp => d p ?_, fun p hp => ?_, e⟩
      · simp only [List.mem_append, List.mem_cons] at hp ⊢
        rcases hp with h | h | h <;> simp [h]
      · rcases List.mem_append.mp hp with hp | hp
        · exact b (it, io) (.head _) p hp
        · exact ne2 p hp
    cases f with
    | next => exact go h₃
    | cont => exact go h₃
    | brk => exact h₃
    | ret v => exact h₃
theorem lst_go {prog : Program} {w : World} {A : Around} {E : Value → Shared → Prop} {s : Shared} {elts : List Expr} {x1} {pos : Pos} {g : Heap} {L I l T : Addr} {io : Obj} {i : Nat} {led : Led} {Q : Unit → Shared → Prop} (N : News g L s.heap led) (hm : (I, io) ∈ led) (hio : lstIt l io i) (hQ : Q () s) :
    wpAny (model prog w) A (letOwnedTupleGo (.Tuple elts x1 pos) (.ref I) (.ref T)) Q E s :=
  wpAny_letOwnedTupleGo_listiter ⟨io, (N _ hm).1, hio.1, hio.2⟩ hQ
/-- what the second loops need of what the first found -/
theorem loopB_start {h₀ h : Heap} {L fo : Addr} {oF : Obj} {rest : Led} {vs : List Value} {es : List Ent} (N : News h₀ L h ((fo, oF) :: rest)) (h148 : (148, tabObj #[]) ∈ rest) (hfo : @Ne Nat fo 148) (hE : EntsIn rest vs es) :
    ∃ O : Led, (∀ p ∈ O, p ∈ rest) ∧ (∀ p ∈ rest, NoTab p → p ∈ O) ∧ EntsIn O vs es ∧ Apart [(148, tabObj #[])] ((fo, oF) :: O) ∧ News h₀ L h ([(148, tabObj #[])] ++ ((fo, oF) :: O)) := by
  have hs : ∀ p ∈ rest, NoTab p → p ∈ rest.filter (fun p => decide (p.1 ≠ (148 : Nat))) := fun p hp hn => by
    refine List.mem_filter.mpr ⟨hp, decide_eq_true fun e => hn ?_⟩
    have a1 := (N _ (.tail _ hp)).1
    have a2 := (N _ (.tail _ h148)).1
    rw [e, a2] at a1
    rw [← Option.some.inj a1]
  refine ⟨rest.filter (fun p => decide (p.1 ≠ (148 : Nat))), fun p hp => (List.mem_filter.mp hp).1, hs, hE.off hs, forall_in_cons ?_ fun q hq => ?_, ?_⟩
  · exact forall_in_cons (Ne.symm hfo) forall_in_nil
  · refine forall_in_cons ?_ forall_in_nil
    exact Ne.symm (of_decide_eq_true (List.mem_filter.mp hq).2)
  · refine forall_in_cons (N _ (.tail _ h148)) (forall_in_cons (N _ (.head _)) fun p hp => N p (.tail _ (List.mem_filter.mp hp).1))
end Mine
end
section
open PySem PySem.W PyProof.Rows
namespace Mine
open scoped Classical
set_option maxRecDepth 100000
set_option linter.unusedVariables false
abbrev tupO (vs : Array Value) (n : Nat) : Obj := { cls := .type "tuple", data := .seq vs n }
theorem DAll.five {news : Led} {vs : List Value} {a b c d e : Dt} (h : DAll news vs [a, b, c, d, e]) : ∃ v0 v1 v2 v3 v4, vs = [v0, v1, v2, v3, v4] ∧ DIn news v0 a ∧ DIn news v1 b ∧ DIn news v2 c ∧ DIn news v3 d ∧ DIn news v4 e := by
  obtain ⟨v0, _, rfl, h0, h⟩ := h.cons_inv
  obtain ⟨v1, _, rfl, h1, h⟩ := h.cons_inv
  obtain ⟨v2, v3, v4, rfl, h2, h3, h4⟩ := h.three
  exact ⟨v0, v1, v2, v3, v4, rfl, h0, h1, h2, h3, h4⟩
theorem DIn.dbv {led : Led} {v : Value} {d : Dt} (h : DIn led v d) (hd : DbD d) : DbV v d := by
  rcases hd with rfl | ⟨b, rfl⟩
  · cases h; exact .none
  · obtain ⟨t, rfl⟩ := h.str_inv; exact .str _ _
theorem EntIn.parts {O : Led} {v : Value} {e : Ent} (h : EntIn O v e) : ∃ lb tA n da dn oT v1 v3 v4, v = .ref tA ∧ lb = decide (e.k = 12) ∧ (tA, triO e.x (.ref da) lb n) ∈ O ∧
    (da, tupO #[.bytes (oidOf e.k e.o).toArray oT, v1, .bool (weakOf e.k), v3, v4] dn) ∈ O ∧ DbV v1 (dbOf e.k e.b) ∧ DIn O v4 (dataOf e.k e.o e.b) ∧ IsPR O e.x e.dv (oidOf e.k e.o) (dbOf e.k e.b) (weakOf e.k) ∧ e.k < 13 ∧ e.o.length = 8 := by
  obtain ⟨hk, ho, tA, n, dueV, rfl, hm, hp, hdv, hdue⟩ := h
  obtain ⟨da, dus, dn, rfl, hd, hall⟩ := DIn.tup_inv (show DIn O dueV (.tup _) from hdue)
  obtain ⟨v0, v1, v2, v3, v4, rfl, g0, g1, g2, g3, g4⟩ := hall.five
  obtain ⟨t, rfl⟩ := g0.bytes_inv
  cases g2.bool_inv
  exact ⟨_, tA, n, da, dn, t, v1, v3, v4, rfl, rfl, hm, hd, g1.dbv (dbD _ _), g4, hp, hk, ho⟩
/-- a test whose answer is known -/
def OutQ (h₀ : Heap) (L : Addr) (m : Str → Option Value) (news : Led) (s : Shared) (b0 : Bool) (b : Bool) (s' : Shared) : Prop :=
  b = b0 ∧ ∃ h' tk', s' = { s with heap := h', toks := tk' } ∧ Fr h₀ L h' m ∧ News h₀ L h' news
theorem test_out {M : Model} {A : Around} {E : Value → Shared → Prop} {s : Shared} {c : Sem Bool} {h₀ : Heap} {L : Addr} {m : Str → Option Value} {news : Led} {Q : Bool → Shared → Prop} (b0 : Bool) (F : Fr h₀ L s.heap m) (N : News h₀ L s.heap news) (h : wpAny M A c (OutQ h₀ L m news s b0) E s)
    (k : ∀ h' tk', Fr h₀ L h' m → News h₀ L h' news → Q b0 { s with heap := h', toks := tk' }) : wpAny M A c Q E s :=
  wpAny_mono h (fun v s' h' => by obtain ⟨rfl, h1, tk, rfl, a, b⟩ := h'; exact k h1 tk a b) fun _ _ e => e
section
variable {prog : Program} {w : World} {A : Around} {E : Value → Shared → Prop} {s : Shared} {h₀ : Heap} {L : Addr} {m : Str → Option Value} {news : Led}
/-- one is other -/
theorem is_dec {x y : Addr} {dv dv' : Value} {o o' : List UInt8} {db db' : Dt} {wk wk' : Bool} {Q : Value → Shared → Prop} (N : News h₀ L s.heap news) (hx : IsPR news x dv o db wk) (hy : IsPR news y dv' o' db' wk') (h : Q (.bool (decide (x = y))) s) :
    wpAny (model prog w) A (compareOp .Is (.ref x) (.ref y)) Q E s := by
  by_cases e : x = y
  · subst e
    rw [decide_eq_true rfl] at h
    exact wpAny_is_ref_self h
  · rw [decide_eq_false e] at h
    obtain ⟨d, es, n, t, h1, _⟩ := hx
    obtain ⟨d', es', n', t', h2, _⟩ := hy
    exact wpAny_is_ref_other e (N _ h1).1 (N _ h2).1 (by intro z; cases z) h
theorem ne_bools {a b : Bool} {Q : Value → Shared → Prop} (e : a = b) (h : Q (.bool false) s) : wpAny (model prog w) A (compareOp .NotEq (.bool a) (.bool b)) Q E s := by
  refine wpAny_compareOp_ne (PySem.SeqAt.RcNeAt.bool_bool a b prog w E Q ?_)
  rw [e, beq_self_eq_true]
  exact h
/-- due[:2] == told[:2] -/
theorem eq_two {a b : Addr} {na nb : Nat} {o o' : List UInt8} {t t' : Tok} {v v' : Value} {d d' : Dt} {Q : Value → Shared → Prop} (N : News h₀ L s.heap news) (ha : (a, tupO #[.bytes o.toArray t, v] na) ∈ news) (hb : (b, tupO #[.bytes o'.toArray t', v'] nb) ∈ news) (hv : DbV v d) (hv' : DbV v' d') (hu : A.units + 2 < cLine)
    (h : Q (.bool (decide (o = o' ∧ d = d'))) s) : wpAny (model prog w) A (compareOp .Eq (.ref a) (.ref b)) Q E s := by
  have ok : ∀ {v d}, DbV v d → okD true 1 d = true := fun h => by cases h <;> rfl
  refine eq_dat (k := true) (n := 2) N (.tup (vs := [.bytes o.toArray t, v]) ha (.cons (.bytes _ _) (.cons hv.din .nil))) (.tup (vs := [.bytes o'.toArray t', v']) hb (.cons (.bytes _ _) (.cons hv'.din .nil))) ?_ ?_ hu ?_
  · show ([Dt.bytes o, d].all (okD true 1)) = true
    rw [List.all_cons, List.all_cons, List.all_nil, ok hv]
    rfl
  · show ([Dt.bytes o', d'].all (okD true 1)) = true
    rw [List.all_cons, List.all_cons, List.all_nil, ok hv']
    rfl
  · have e : decide (Dt.tup [.bytes o, d] = Dt.tup [.bytes o', d']) = decide (o = o' ∧ d = d') := decide_eq_decide.mpr (by simp)
    rw [e]
    exact h
/-- due[4] == told[4] -/
theorem eq_data {v v' : Value} {k k' : Nat} {o o' : List UInt8} {b b' : Str} {Q : Value → Shared → Prop} (N : News h₀ L s.heap news) (hv : DIn news v (dataOf k o b)) (hv' : DIn news v' (dataOf k' o' b')) (hu : A.units + 3 < cLine)
    (h : Q (.bool (decide (dataOf k o b = dataOf k' o' b'))) s) : wpAny (model prog w) A (compareOp .Eq v v') Q E s :=
  eq_dat (k := false) (n := 3) N hv hv' (okD_data _ _ _) (okD_data _ _ _) hu h
abbrev ansR : Array Value := #[.bool true, .bool false, .bool false, .bool false, .bool true, .bool true]
theorem ne_ans {a b : Addr} {na nb : Nat} {Q : Value → Shared → Prop} (N : News h₀ L s.heap news) (ha : (a, listOf ansR na) ∈ news) (hb : (b, listOf ansR nb) ∈ news) (hu : A.units + 2 < cLine) (h : Q (.bool false) s) :
    wpAny (model prog w) A (compareOp .NotEq (.ref a) (.ref b)) Q E s := by
  have d : DAll news [.bool true, .bool false, .bool false, .bool false, .bool true, .bool true] [.bool true, .bool false, .bool false, .bool false, .bool true, .bool true] := .cons (.bool _) (.cons (.bool _) (.cons (.bool _) (.cons (.bool _) (.cons (.bool _) (.cons (.bool _) .nil)))))
  have ok : ∀ x ∈ [Dt.bool true, .bool false, .bool false, .bool false, .bool true, .bool true], okD false 1 x = true := by
    intro x hx
    simp only [List.mem_cons, List.not_mem_nil, or_false] at hx
    rcases hx with rfl | rfl | rfl | rfl | rfl | rfl <;> rfl
  refine ne_lst (k := false) (n := 1) N ha hb d d ok ok rfl hu ?_
  rw [decide_eq_true rfl]
  exact h
theorem refd_din {vs : List Value} (h : Refd vs) : DAll news vs (List.replicate vs.length (.str "refused")) := by
  induction vs with
  | nil => exact .nil
  | cons v vs ih =>
    obtain ⟨t, rfl⟩ := h v (.head _)
    exact .cons (.str _ _) (ih fun u hu => h u (.tail _ hu))
theorem ne_refd {a b : Addr} {na nb : Nat} {vs us : List Value} {Q : Value → Shared → Prop} (N : News h₀ L s.heap news) (ha : (a, listOf vs.toArray na) ∈ news) (hb : (b, listOf us.toArray nb) ∈ news) (rv : Refd vs) (ru : Refd us) (lv : vs.length = 6) (lu : us.length = 6) (hu : A.units + 2 < cLine) (h : Q (.bool false) s) :
    wpAny (model prog w) A (compareOp .NotEq (.ref a) (.ref b)) Q E s := by
  have ok : ∀ x ∈ List.replicate 6 (Dt.str "refused"), okD false 1 x = true := fun x hx => by rw [(List.mem_replicate.mp hx).2]; rfl
  have d1 := refd_din (news := news) rv
  have d2 := refd_din (news := news) ru
  rw [lv] at d1
  rw [lu] at d2
  refine ne_lst (k := false) (n := 1) N ha hb d1 d2 ok ok rfl hu ?_
  rw [decide_eq_true rfl]
  exact h
theorem refd_rep (t : Tok) : ∀ n : Nat, Refd (List.replicate n (.str "refused" t)) := fun n v hv => ⟨t, (List.mem_replicate.mp hv).2⟩
end
end Mine
end
section
open PySem PySem.W PyProof.Rows
namespace Mine
open scoped Classical
set_option maxRecDepth 100000
set_option linter.unusedVariables false
theorem same_dec {rest : Led} {xs : List (Dt × Addr × Value)} {es : List Ent} (K : FacKeys rest xs es) {e f : Ent} {i j : Nat} (he : es[i]? = some e) (hf : es[j]? = some f) {lb gb : Bool} (hlb : lb = decide (e.k = 12)) (hgb : gb = decide (f.k = 12)) (l0 : lb = false) (g0 : gb = false)
    (h1 : e.k < 13) (h2 : f.k < 13) (o1 : e.o.length = 8) (o2 : f.o.length = 8) : decide (e.x = f.x) = decide (dataOf e.k e.o e.b = dataOf f.k f.o f.b) := by
  have n1 : ¬ e.k = 12 := of_decide_eq_false (hlb ▸ l0)
  have n2 : ¬ f.k = 12 := of_decide_eq_false (hgb ▸ g0)
  exact decide_eq_decide.mpr (K.same (List.mem_of_getElem? he) (List.mem_of_getElem? hf) (by omega) (by omega) o1 o2)
theorem lamTab_ps {TB : Led} (h : LamTab TB) : ∃ ps, (148, tabObj ps) ∈ TB := by
  rcases h with rfl | ⟨k1, k2, k3, k4, k5, k6, q1, q2, q3, q4, q5, q6, e1, e2, e3, e4, e5, e6, rfl⟩
  · exact ⟨_, .head _⟩
  · exact ⟨_, .head _⟩
section
variable {prog : Program} {w : World} {A : Around} {E : Value → Shared → Prop} {s : Shared} {h₀ : Heap} {L : Addr} {m : Str → Option Value} {news : Led}
theorem is_as {x y : Addr} {dv dv' : Value} {o o' : List UInt8} {db db' : Dt} {wk wk' : Bool} {Q : Value → Shared → Prop} (b : Bool) (e : x = y ↔ b = true) (N : News h₀ L s.heap news) (hx : IsPR news x dv o db wk) (hy : IsPR news y dv' o' db' wk') (h : Q (.bool b) s) :
    wpAny (model prog w) A (compareOp .Is (.ref x) (.ref y)) Q E s := is_dec N hx hy (by
      have : decide (x = y) = b := by by_cases z : x = y <;> simp [z] at e ⊢ <;> exact e
      rw [this]; exact h)
theorem eq_two_as {a c : Addr} {na nb : Nat} {o o' : List UInt8} {t t' : Tok} {v v' : Value} {d d' : Dt} {Q : Value → Shared → Prop} (b : Bool) (e : (o = o' ∧ d = d') ↔ b = true) (N : News h₀ L s.heap news) (ha : (a, tupO #[.bytes o.toArray t, v] na) ∈ news) (hb : (c, tupO #[.bytes o'.toArray t', v'] nb) ∈ news) (hv : DbV v d) (hv' : DbV v' d') (hu : A.units + 2 < cLine)
    (h : Q (.bool b) s) : wpAny (model prog w) A (compareOp .Eq (.ref a) (.ref c)) Q E s := eq_two N ha hb hv hv' hu (by
      have : decide (o = o' ∧ d = d') = b := by
        cases b with
        | true => exact decide_eq_true (e.mpr rfl)
        | false => exact decide_eq_false fun z => Bool.noConfusion (e.mp z)
      rw [this]; exact h)
theorem rep6 {l : Addr} {t u : Tok} {n : Nat} {Q : Value → Shared → Prop} (F : Fr h₀ L s.heap m) (N : News h₀ L s.heap news) (hm : (l, listOf #[.str "refused" t] n) ∈ news)
    (h : ∀ D h', Fr h₀ L h' m → News h₀ L h' ((D, listOf (List.replicate 6 (.str "refused" t)).toArray 0) :: news) → Q (.ref D) { s with heap := h' }) :
    wpAny (model prog w) A (binaryOp .Mult (.ref l) (.int 6 u)) Q E s :=
  KMa.mul (vs := [.str "refused" t]) F N ⟨_, (N _ hm).1, rfl, n, rfl⟩ (by decide) (by decide) (by show 1 * 6 ≤ 256; decide) rfl fun D h' F' N' _ => h D h' F' N'
/-- the end of a turn of a second loop -/
theorem loop_end {base led TB : Led} {ns : List Str} {M mm : Str → Option Value} {h' : Heap} {tk : Nat} {s3 : Shared} (hM : ∀ y, y ∉ ns → M y = mm y) (F : Fr h₀ L h' M) (N : News h₀ L h' led) (sub : ∀ p ∈ TB ++ base, p ∈ led) (hT : LamTab TB) (ap : Apart TB base) (hs : s3 = { s with heap := h', toks := tk }) :
    ∃ c' TB' h' tk', LamTab TB' ∧ Apart TB' base ∧ Fr h₀ L h' (mN ns c' mm) ∧ News h₀ L h' (TB' ++ base) ∧ s3 = { s with heap := h', toks := tk' } :=
  ⟨M, TB, h', tk, hT, ap, by rw [← mN_of hM]; exact F, fun p hp => N p (sub p hp), hs⟩
end
end Mine
end
section
open PySem PySem.W PyProof.Rows
namespace Mine
theorem off_Te : True := by w_top off; exact True.intro
set_option maxRecDepth 100000
set_option linter.unusedVariables false
set_option linter.unusedSimpArgs false
set_option maxHeartbeats 8000000
local macro_rules | `(tactic| k_room) => `(tactic| ktr_room)
local macro_rules | `(tactic| k_units) => `(tactic| ktr_units)
local macro_rules | `(tactic| units_room) => `(tactic| ktr_units)
local macro_rules | `(tactic| ktn_open) => `(tactic| (repeat (first | exact List.Mem.head _ | refine List.Mem.tail _ ?_)))
local macro_rules | `(tactic| walk_at "compareOp Eq bytes str") => `(tactic| (k_here; refine eq_bytes_str ?_))
local macro_rules | `(tactic| walk_at "compareOp Eq bytes bytes") => `(tactic| (k_here; refine eq_oid_same ?_))
local macro_rules | `(tactic| walk_at "compareOp NotEq ref ref") => `(tactic| (refine held_ ?_))
section
open scoped Classical
variable {prog : Program} {w : World} {A : Around} {E : Value → Shared → Prop} {s : Shared} {h₀ : Heap} {L : Addr} {news : Led}
theorem ne_lst_same {n : Nat} {a b : Addr} {vs us : List Value} {ds : List Dt} {na nb : Nat} {Q : Value → Shared → Prop} (N : News h₀ L s.heap news) (ha : (a, listOf vs.toArray na) ∈ news) (hb : (b, listOf us.toArray nb) ∈ news)
    (da : DAll news vs ds) (db : DAll news us ds) (ka : ∀ d ∈ ds, okD false n d = true) (hu : A.units + (n + 1) < cLine) (h : Q (.bool false) s) : wpAny (model prog w) A (compareOp .NotEq (.ref a) (.ref b)) Q E s :=
  ne_lst (k := false) (n := n) N ha hb da db ka ka rfl hu (by rw [decide_eq_true rfl]; exact h)
theorem ne_tup_same {n : Nat} {a b : Addr} {vs us : List Value} {ds : List Dt} {na nb : Nat} {Q : Value → Shared → Prop} (N : News h₀ L s.heap news) (ha : (a, ({ cls := .type "tuple", data := .seq vs.toArray na } : Obj)) ∈ news) (hb : (b, ({ cls := .type "tuple", data := .seq us.toArray nb } : Obj)) ∈ news)
    (da : DAll news vs ds) (db : DAll news us ds) (ka : ∀ d ∈ ds, okD false n d = true) (hu : A.units + (n + 1) < cLine) (h : Q (.bool false) s) : wpAny (model prog w) A (compareOp .NotEq (.ref a) (.ref b)) Q E s :=
  ne_tup (k := false) (n := n) N ha hb da db ka ka hu (by rw [decide_eq_true rfl]; exact h)
end
theorem handed_ref {M : Model} {A : Around} {E : Value → Shared → Prop} {s : Shared} {a : Addr} {Q : Value → Shared → Prop} (h : Q (.ref a) s) : wpAny M A (handedOut (.ref a)) Q E s := wpAny_pure h
local macro_rules | `(tactic| walk_at "getAttr ref") => `(tactic| ((with_reducible show wpAny _ _ (getAttr (Value.ref _) ("klass" : Str) _) _ _ _); refine held_ ?_))
theorem lost_claim (hmk : Marks hd.heap_39 PySem.Challenge.rw_vy0039_01) {prog : Program} {w : World} {p : Program} {loose : List Str} {mean : ExcName → Option Value} {mg mb : Str → Option Value} (p0 : UInt8) (ps : List UInt8) (hz : (p0 :: ps).length ≤ sizeLine) (t : Tok) (news : Led) :
  VClaim 60 400 prog w (hd.heap_39 w.params) p loose mean mg mb 160 [.bytes (p0 :: ps).toArray t] news (fun v => v = .bool true) := by
  unfold VClaim
  revert hmk
  k_fill
  intro _ dp un gd cn cs a ccd cl outer A₀ base h₀ L m s Q E B F X N T hk hd hu hret
  refine wpAny_call ?_
  have N0 : News h₀ L s.heap [] := News.nil
  k_dflt (refine' code_defG ?k1 ?k2 ?k3 N0 ?k5 ?kA ?kF ?kK ?k6 ?k7 ?k8 ?k9 ?kB ?_ ?c2 ?c3 ?c4 ?c5; (case kA => exact rfl); (case kF => exact rfl); (case kK => assumption); (case k1 => k_asm); (case k2 => k_asm); (case k3 => k_asm); (case k5 => k_asm); (case k6 => k_is); (case k7 => k_is); (case k8 => ktr_room); (case k9 => exact BindsTo.of_eq rfl); (case c5 => decide); (case kB => exact locs rfl); (case c2 => exact rfl); (case c3 => exact rfl); (case c4 => exact rfl); k_whole; intro g' L' h' FG' F' N' B' X' T' GS; (try dsimp only); (try k_lift B'); (try k_fold))
  k_steps
  unfold Held
  rename News g' L' _ _ => NX
  refine ne_lst_same (n := 3) (ds := [.str "m", .tup [.str "two", .bytes (p0 :: ps), .tup [.str "shop", .str "Cart"]]]) NX (by ktn_open) (by ktn_open) (.cons (.str _ _) (.cons (.tup (by ktn_open) (.cons (.str _ _) (.cons (.bytes _ _) (.cons (.tup (by ktn_open) (.cons (.str _ _) (.cons (.str _ _) .nil))) .nil)))) .nil)) (.cons (.str _ _) (.cons (.tup (by ktn_open) (.cons (.str _ _) (.cons (.bytes _ _) (.cons (.tup (by ktn_open) (.cons (.str _ _) (.cons (.str _ _) .nil))) .nil)))) .nil)) (forall_in_cons rfl (forall_in_cons rfl forall_in_nil)) (by show _ + 4 < cLine; ktr_units) ?_

  have NZ : News g' L' _ _ := (forall_in_cons (NX _ (.tail _ (.tail _ (.tail _ (.tail _ (.tail _ (.head _))))))) (forall_in_cons (NX _ (.tail _ (.tail _ (.tail _ (.tail _ (.tail _ (.tail _ (.head _)))))))) (forall_in_cons (NX _ (.tail _ (.tail _ (.tail _ (.tail _ (.tail _ (.tail _ (.tail _ (.head _))))))))) (forall_in_cons (NX _ (.tail _ (.tail _ (.tail _ (.head _))))) (forall_in_cons (NX _ (.tail _ (.tail _ (.tail _ (.tail _ (.tail _ (.tail _ (.tail _ (.tail _ (.tail _ (.head _))))))))))) forall_in_nil)))))
  clear NX
  k_steps
  unfold Held
  rename Fr g' L' _ _ => FX
  rename News g' L' _ _ => NX
  refine' get_prop FX X' (InstAt.of_news NX (.head _) (.tail _ (.head _))) ?k4 ?k5 ?k6 ?k7 ?k8 ?k9 ?_
  case k4 => k_is
  case k5 => k_is
  case k6 => k_is
  case k7 => k_is
  case k8 => k_is
  case k9 => k_is
  refine' (klass_m Marks.intro ?hdv ?hs) _ _ _ _ _ _ _ _ _ _ _ _ _ _ _ _ B' FX X' NX T' rfl ?hd ?hu ?_
  case hs => exact forall_in_cons (.head _) (forall_in_cons (.tail _ (.head _)) (forall_in_cons (.tail _ (.tail _ (.head _))) (forall_in_cons (.tail _ (.tail _ (.tail _ (.head _)))) forall_in_nil)))
  case hdv => k_get
  case hd => ktr_room
  case hu => ktr_units
  clear FX NX
  rintro _ h4 tk4 F4 N4 rfl
  refine handed_ref ?_
  k_steps
  unfold Held
  rename News g' L' _ _ => NX
  refine ne_tup_same (n := 1) (ds := [.str "shop", .str "Cart"]) NX (.tail _ (.tail _ (.tail _ (.tail _ (.tail _ (.head _)))))) (.head _) (.cons (.str _ _) (.cons (.str _ _) .nil)) (.cons (.str _ _) (.cons (.str _ _) .nil)) (forall_in_cons rfl (forall_in_cons rfl forall_in_nil)) (by show _ + 2 < cLine; ktr_units) ?_
  k_steps
  rename Fr h₀ L _ _ => kF1
  rename Fr g' L' _ _ => F1
  have hfin := fin_claim N GS F1 News.nil News.nil
  exact hret _ _ _ kF1 hfin.1 rfl
theorem lost_of (hmk : Marks hd.heap_39 PySem.Challenge.rw_vy0039_01) {prog : Program} {w : World} {p : Program} {loose : List Str} {mean : ExcName → Option Value} {mg mb : Str → Option Value} {o : List UInt8} (ho : o.length = 8) (t : Tok) (news : Led) :
    VClaim 60 400 prog w (hd.heap_39 w.params) p loose mean mg mb 160 [.bytes o.toArray t] news (fun v => v = .bool true) := by
  cases o with
  | nil => cases ho
  | cons p0 ps => exact lost_claim hmk p0 ps (by rw [ho, sizeLine_eq]; exact Nat.le_of_ble_eq_true rfl) t news
end Mine
end
section
open PySem PySem.W PyProof.Rows
namespace Mine
theorem off_W4 : True := by w_top off; exact True.intro
set_option maxRecDepth 100000
set_option maxHeartbeats 8000000
theorem written_of {prog : Program} {w : World} {p : Program} {loose : List Str} {mean : ExcName → Option Value} {mg mb : Str → Option Value} {o : List UInt8} (ho : o.length = 8) (n : Int) (t t' : Tok) (news : Led) :
    Claim prog w (hd.heap_39 w.params) p loose mean mg mb 146 [.int n t, .bytes o.toArray t'] news (fun v tl => Written n o v tl) := by
  obtain ⟨b0, b1, b2, b3, b4, b5, b6, b7, rfl⟩ := eight_list ho
  exact written_claim Marks.intro n t t' b0 b1 b2 b3 b4 b5 b6 b7 news
theorem news_dup {g h : Heap} {L : Addr} {led : Led} {q : Addr × Obj} (N : News g L h led) (hq : q ∈ led) : News g L h (q :: led) := fun p hp => by
  rcases List.mem_cons.mp hp with rfl | hp
  · exact N _ hq
  · exact N p hp
theorem idOf_length (n : Int) : (idOf n).length = 8 := rfl
theorem pow_256_8 {prog : Program} {w : World} {A : Around} {E : Value → Shared → Prop} {s : Shared} {t u : Tok} {Q : Value → Shared → Prop} (h : Q (.int 18446744073709551616 s.toks) { s with toks := s.toks + 1 }) :
    wpAny (model prog w) A (binaryOp .Pow (.int 256 t) (.int 8 u)) Q E s := by
  refine pow_int_small (by decide) (by decide) (by decide) ?_
  rw [show (256 : Int) ^ (8 : Int).toNat = 18446744073709551616 from by decide]
  exact h
theorem pow_256_f {prog : Program} {w : World} {A : Around} {E : Value → Shared → Prop} {s : Shared} {t u : Tok} {n : Int} {Q : Value → Shared → Prop} (h : ∀ k : Int, Q (.int k s.toks) { s with toks := s.toks + 1 }) :
    wpAny (model prog w) A (binaryOp .Pow (.int 256 t) (.int (n.fmod 8) u)) Q E s :=
  pow_int_small (Int.fmod_nonneg_of_pos _ (by decide)) (Int.le_of_lt (Int.lt_trans (Int.fmod_lt_of_pos _ (by decide)) (by decide))) (by decide) (h _)
local macro_rules | `(tactic| walk_at "callWith ref cons nil") => `(tactic| (k_here; k_dflt (refine' callWith_K ?k1 ?k2 ?_; (case k1 => k_asm); (case k2 => k_is); k_whole)))
local macro_rules | `(tactic| walk_at "callWith ref nil nil") => `(tactic| (k_here; k_dflt (refine' callWith_K ?k1 ?k2 ?_; (case k1 => k_asm); (case k2 => k_is); k_whole)))
local macro_rules | `(tactic| walk_at "eval IfExp") => `(tactic| (refine held_ ?_))
local macro_rules | `(tactic| walk_at "eval ListComp") => `(tactic| (refine held_ ?_))
local macro_rules | `(tactic| walk_at "execs cons") => `(tactic| (k_here; (with_reducible refine wpAny_execs_cons ?_); (try dsimp only)))
local macro_rules | `(tactic| walk_at "execs cons Assign cons") => `(tactic| (k_here; (with_reducible refine wpAny_execs_cons ?_); (try dsimp only)))
local macro_rules | `(tactic| walk_at "binaryOp Pow int int") => `(tactic| (k_here; first | (with_reducible refine pow_256_8 ?_) | ((with_reducible refine pow_256_f ?_); intro _)))
local macro_rules | `(tactic| walk_at "exec Assign cons ListComp") => `(tactic| (refine held_ ?_))
local macro_rules | `(tactic| walk_at "CompSrc Call cons ref") => `(tactic| (k_here; k_dflt (refine LCg.CompSrc.range (by rfl) (by k_asm) (by k_asm) (by assumption) (by first | decide | rfl) (by first | rfl | decide) (by first | size_fits | exact Nat.le_of_ble_eq_true rfl) ?_; intro g'; lcg_lit)))
local macro_rules | `(tactic| walk_at "call ref cons nil") => `(tactic| ((with_reducible show wpAny _ _ (call (Value.ref 141) [_]) _ _ _); refine held_ ?_))
local macro_rules | `(tactic| walk_at "exec For") => `(tactic| (refine held_ ?_))
local macro_rules | `(tactic| walk_at "exec For Name Subscript cons nil") => `(tactic| (refine held_ ?_))
local macro_rules | `(tactic| walk_at "pyIter ref") => `(tactic| (refine held_ ?_))
local macro_rules | `(tactic| walk_at "subscriptTail Name BinOp ref int") => `(tactic| (refine held_ ?_))
local macro_rules | `(tactic| walk_at "call ref cons nil") => `(tactic| ((with_reducible show wpAny _ _ (call (Value.ref 146) [_, _]) _ _ _); refine held_ ?_))
local macro_rules | `(tactic| walk_at "call ref cons nil") => `(tactic| ((with_reducible show wpAny _ _ (call (Value.ref 127) [_, _]) _ _ _); refine held_ ?_))
local macro_rules | `(tactic| walk_at "call ref cons nil") => `(tactic| ((with_reducible show wpAny _ _ (call (Value.ref 109) [_]) _ _ _); refine held_ ?_))
local macro_rules | `(tactic| walk_at "getMethod ref") => `(tactic| (k_here; (with_reducible show wpAny _ _ (getMethod (Value.ref _) ("persistent_load" : Str) _) _ _ _); k_dflt (refine' method_inst ?k1 ?k2 ?k3 ?k4 ?k5 ?k6 ?k7 ?_; (case k1 => k_asm); (case k2 => k_asm); (case k3 => k_inst); (case k4 => k_is); (case k5 => k_is); (case k6 => k_is); (case k7 => assumption); k_whole)))
local macro_rules | `(tactic| walk_at "Exists") => `(tactic| (refine held_ ?_))
theorem ints_get : ∀ {ws : List Value} {ns : List Int}, IntsAre ws ns → ∀ {i : Nat} {v : Value}, ws[i]? = some v → ∃ n t, v = .int n t
  | _, _, .nil, _, _, h => by simp at h
  | _, _, .cons n t r, 0, _, h => ⟨n, t, by simpa using h.symm⟩
  | _, _, .cons n t r, i + 1, _, h => ints_get r (by simpa using h)
theorem int_out {M : Model} {A : Around} {E : Value → Shared → Prop} {s : Shared} {m : Sem Value} {Q : Value → Shared → Prop} (h : wpAny M A m (fun v s' => ∃ (n : Int) (t : Tok) (tk : Nat), v = .int n t ∧ s' = { s with toks := tk }) E s)
    (k : ∀ n t tk, Q (.int n t) { s with toks := tk }) : wpAny M A m Q E s :=
  wpAny_mono h (fun v s' h' => by obtain ⟨n, t, tk, rfl, rfl⟩ := h'; exact k n t tk) fun _ _ e => e
local macro_rules | `(tactic| walk_at "getAttr ref") => `(tactic| (k_here; (with_reducible show wpAny _ _ (getAttr (Value.ref _) ("oid" : Str) _) _ _ _); k_dflt (refine' attr_oid ?k1 ?k2 ?k3 ?kp ?k4 ?k5 ?k6 ?k7 ?_; (case k1 => k_asm); (case k2 => k_asm); (case k3 => k_inst); (case kp => assumption); (case k4 => k_is); (case k5 => k_is); (case k6 => k_is); (case k7 => k_is); k_whole); intro _))
local macro_rules | `(tactic| walk_at "getAttr ref") => `(tactic| (k_here; (with_reducible show wpAny _ _ (getAttr (Value.ref _) ("database_name" : Str) _) _ _ _); k_dflt (refine' attr_db ?k1 ?k2 ?k3 ?kp ?k4 ?k5 ?k6 ?k7 ?k8 ?_; (case k1 => k_asm); (case k2 => k_asm); (case k3 => k_inst); (case kp => assumption); (case k4 => k_is); (case k5 => k_is); (case k6 => k_is); (case k7 => k_is); (case k8 => k_is); k_whole); intro _ _))
local macro_rules | `(tactic| walk_at "getAttr ref") => `(tactic| (k_here; (with_reducible show wpAny _ _ (getAttr (Value.ref _) ("weak" : Str) _) _ _ _); k_dflt (refine' attr_weak ?k1 ?k2 ?k3 ?kp ?k4 ?k5 ?k6 ?k7 ?k8 ?_; (case k1 => k_asm); (case k2 => k_asm); (case k3 => k_inst); (case kp => assumption); (case k4 => k_is); (case k5 => k_is); (case k6 => k_is); (case k7 => k_is); (case k8 => k_is); k_whole)))
local macro_rules | `(tactic| walk_at "getAttr ref") => `(tactic| ((with_reducible show wpAny _ _ (getAttr (Value.ref _) ("klass" : Str) _) _ _ _); refine held_ ?_))
local macro_rules | `(tactic| walk_at "getAttr ref") => `(tactic| (k_here; (with_reducible show wpAny _ _ (getAttr (Value.ref _) ("data" : Str) _) _ _ _); k_dflt (refine' get_own ?k1 ?k2 ?k3 ?k4 ?k5 ?k6 ?k7 ?k8 ?k9 ?_; (case k1 => k_asm); (case k2 => k_asm); (case k3 => k_inst); (case k8 => assumption); (case k4 => k_is); (case k5 => k_is); (case k6 => k_is); (case k7 => k_is); (case k9 => exact handed_din (by assumption)); k_whole)))
local macro_rules | `(tactic| walk_at "compareOp NotEq ref ref") => `(tactic| (refine held_ ?_))
local macro_rules | `(tactic| walk_at "compareOp IsNot ref ref") => `(tactic| (k_here; refine wpAny_isNot_ref_self ?_))
local macro_rules | `(tactic| walk_at "call builtin:list.append") => `(tactic| (refine held_ ?_))
local macro_rules | `(tactic| walk_at "compareOp Is ref ref") => `(tactic| (refine held_ ?_))
local macro_rules | `(tactic| walk_at "compareOp Eq ref ref") => `(tactic| (refine held_ ?_))
local macro_rules | `(tactic| walk_at "compareOp Eq") => `(tactic| (refine held_ ?_))
local macro_rules | `(tactic| walk_at "compareOp NotEq bool bool") => `(tactic| (refine held_ ?_))
local macro_rules | `(tactic| walk_at "exec For Tuple Name cons nil") => `(tactic| (refine held_ ?_))
local macro_rules | `(tactic| walk_at "subscriptTail Name Slice ref ref") => `(tactic| (k_here; (with_reducible show wpAny _ _ (subscriptTail _ (PySem.Expr.Slice none (some _) none _) (Value.ref _) (Value.ref _)) _ _ _); k_dflt (refine' slice_to2 ?F ?N ?m ?_ ?s ?t; (case F => k_asm); (case N => k_asm); (case m => (repeat (first | exact List.Mem.head _ | refine List.Mem.tail _ ?_))); (case s => with_unfolding_all rfl); (case t => kmk_pure); k_whole); intro D' h' F' N' l1; (try k_lt l1)))
local macro_rules | `(tactic| walk_at "binaryOp Mult ref int") => `(tactic| (k_here; k_dflt (refine' rep6 ?F ?N ?m ?_; (case F => k_asm); (case N => k_asm); (case m => (repeat (first | exact List.Mem.head _ | refine List.Mem.tail _ ?_))); k_whole); intro D' h' F' N'))
local macro_rules | `(tactic| walk_at "OutQ") => `(tactic| (refine held_ ?_))
local macro_rules | `(tactic| walk_at "call ref cons nil") => `(tactic| ((with_reducible show wpAny _ _ (call (Value.ref 153) [_, _]) _ _ _); refine held_ ?_))
local macro_rules | `(tactic| walk_at "call ref cons nil") => `(tactic| ((with_reducible show wpAny _ _ (call (Value.ref 160) [_]) _ _ _); refine held_ ?_))
local macro_rules | `(tactic| walk_at "exec If BoolOp cons nil") => `(tactic| ((with_reducible show wpAny _ _ (exec (PySem.Stmt.If (PySem.Expr.BoolOp _ [_, _, _] _) _ _ _) _) _ _ _); refine held_ ?_))
local macro_rules | `(tactic| walk_at "exec If BoolOp cons cons") => `(tactic| (refine held_ ?_))
abbrev namesB : List Str := ["number", "oid", "ref", "due", "again", "same", "lost", "made", "one", "other", "told", "gone", "answers"]
abbrev namesC : List Str := ["other", "told", "gone", "answers"]
theorem lawZ : PySem.Challenge.rw_vy0039_01.Holds := hd (by
  k_go0
  all_goals try k_fold
  k_steps
  unfold Held
  refine int_out ?_ ?_
  · refine wpAny_IfExp ?_
    k_steps
    all_goals (unfold Held; exact ⟨_, _, _, rfl, rfl⟩)
  intro hv ht htk
  k_steps
  unfold Held
  refine LCg.Assign_ListComp_U (F₀ := by k_asm) (by rfl) (by with_unfolding_all rfl) (by rfl) (by decide) (by rfl) (by decide) (by rfl) (by rfl) (by rfl) ?_
  rename Below _ _ _ _ => KB
  rename Frag.In _ _ => KX
  rename Top topProg _ _ _ _ _ => KT
  rename CodeHd _ _ _ => KC
  k_steps
  unfold Held
  rename Fr _ _ _ _ => FX
  rename News _ _ _ _ => NX
  refine id_claim Marks.intro _ _ _ _ _ _ _ _ _ _ _ _ _ _ _ _ _ _ _ _ KB FX KX NX KT rfl (by decide) (by decide) ?_
  clear FX NX
  rintro v1 tl1 hc1 tc1 Fc1 Nc1 ne1 ⟨rfl, u1, rfl⟩
  (try simp only [List.nil_append] at Nc1)
  (try dsimp only)
  k_steps
  unfold Held
  rename Fr _ _ _ _ => FX
  rename News _ _ _ _ => NX
  refine id_claim Marks.intro _ _ _ _ _ _ _ _ _ _ _ _ _ _ _ _ _ _ _ _ KB FX KX NX KT rfl (by decide) (by decide) ?_
  clear FX NX
  rintro v2 tl2 hc2 tc2 Fc2 Nc2 ne2 ⟨rfl, u2, rfl⟩
  (try simp only [List.nil_append] at Nc2)
  (try dsimp only)
  k_steps
  unfold Held
  rename Fr _ _ _ _ => FX
  rename News _ _ _ _ => NX
  refine id_claim Marks.intro _ _ _ _ _ _ _ _ _ _ _ _ _ _ _ _ _ _ _ _ KB FX KX NX KT rfl (by decide) (by decide) ?_
  clear FX NX
  rintro v3 tl3 hc3 tc3 Fc3 Nc3 ne3 ⟨rfl, u3, rfl⟩
  (try simp only [List.nil_append] at Nc3)
  (try dsimp only)
  k_steps
  unfold Held
  rename Fr _ _ _ _ => FX
  rename News _ _ _ _ => NX
  refine id_claim Marks.intro _ _ _ _ _ _ _ _ _ _ _ _ _ _ _ _ _ _ _ _ KB FX KX NX KT rfl (by decide) (by decide) ?_
  clear FX NX
  rintro v4 tl4 hc4 tc4 Fc4 Nc4 ne4 ⟨rfl, u4, rfl⟩
  (try simp only [List.nil_append] at Nc4)
  (try dsimp only)
  k_steps
  unfold Held
  refine wpAny_For ?_
  k_steps
  unfold Held
  rename_i Di _ _ oi xf df _ bf bx _ fo _ bfo _ Ds ws _ FA NA hI hC hL bD
  refine iter_lst_led (items := ws) FA NA (.head _) ?_
  intro it io hi Fi Ni hio bit
  dsimp only
  refine law_loopA rfl Fi Ni hio bit ⟨bD.1, bD.2.1, bD.2.2.1⟩ ⟨bfo.1, bfo.2.1, bfo.2.2.1, bfo.2.2.2.1, bfo.2.2.2.2⟩ ⟨bf.1, bf.2.1, bf.2.2⟩ bx ?turn ?fin
  case turn =>
    intro i v g m led io h tk hv hst F N ne hio
    obtain ⟨rfl, c, nf, vs, es, FL, xs, rest, rfl, rfl, hvl, hE, hF, hK, hxl, hfl, hfo, hb⟩ := hst
    have hi9 : i < 9 := by
      have e1 := hI.length
      have e2 := (List.getElem?_eq_some_iff.mp hv).1
      omega
    obtain ⟨n, t, rfl⟩ := ints_get hI hv
    refine wpAny_of_eq (rfl : letOwnedTupleGo (.Name _ _) _ _ = pure ()) ?_
    k_steps
    unfold Held
    rename Fr _ _ _ _ => FX
    rename News _ _ _ _ => NX
    refine tail_ids NX (ledA_rest (hb _ (.tail _ (.head _)))) (idOf_length _) (idOf_length _) (idOf_length _) (idOf_length _) ?_ (by with_unfolding_all rfl)
    intro o to ho
    k_steps
    unfold Held
    have A0 : Ap it fo FL rest := ⟨hfl, hfo, fun q hq => ne q (.tail _ hq), ne _ (.head _)⟩
    rename Fr _ _ _ _ => FX
    rename News _ _ _ _ => NX
    refine written_of ho _ _ _ _ _ _ _ _ _ _ _ _ _ _ _ _ _ _ _ _ _ KB FX KX NX KT rfl (by decide) (by decide) ?_
    clear FX NX
    rintro _ tl1 h1 tk1 F1 N1e ne1 ⟨tup1, kk1, r1, d1, rfl, hm1, hr1, hd1⟩
    have N1 := news_dup (ledA_absorb N1e) (ledA_rest (List.mem_append_left rest hm1))
    have A1 := A0.absorb ne1
    clear N1e
    dsimp only
    k_steps
    unfold Held
    rename Fr _ _ _ _ => FX
    rename News _ _ _ _ => NX
    have NX' := fun p (hp : p ∈ ledA it io fo (listOf vs.toArray nf) FL (tl1 ++ rest)) => NX p (.tail _ hp)
    refine written_of ho _ _ _ _ _ _ _ _ _ _ _ _ _ _ _ _ _ _ _ _ _ KB FX KX NX' KT rfl (by decide) (by decide) ?_
    clear FX NX NX'
    rintro _ tl2 h2 tk2 F2 N2e ne2 ⟨tup2, kk2, r2, d2, rfl, hm2, hr2, hd2⟩
    have N2 := news_dup (ledA_absorb N2e) (ledA_rest (List.mem_append_left (tl1 ++ rest) hm2))
    have A2 := A1.absorb ne2
    clear N2e
    dsimp only
    k_steps
    unfold Held
    rename Fr _ _ _ _ => FX
    rename News _ _ _ _ => NX
    obtain ⟨fes, fn, hf1, hf2, hf3⟩ := hF.own
    have NY := news_dup (news_dup NX (.tail _ (.tail _ (.tail _ (List.mem_append_left _ hf2))))) (.tail _ (.tail _ (.tail _ (.tail _ (List.mem_append_left _ hf1)))))
    clear NX
    refine made_out (it := it) (fo := fo) (fa := xf) (fd := df) (io := io) (oo := listOf vs.toArray nf) (rest := tl2 ++ (tl1 ++ rest)) (es := es) (i := i) (k := formOf n) (o := o) (b := baseOf n) FX ?made ?_
    case made =>
      refine wpAny_IfExp ?_
      k_steps
      · rename n.fmod 13 = 12 => c12
        unfold Held
        exact made_lost' Marks.intro (form12 c12) ho hF (hK.mono fun _ h => List.mem_append_right _ (List.mem_append_right _ h)) hxl (hr1.mono fun _ h => List.mem_append_right _ (List.mem_append_left _ h)) A2 _ _ _ _ _ _ _ _ _ _ _ _ _ _ KB FX KX (fun p hp => NY p (.tail _ (.tail _ (.tail _ hp)))) KT rfl (by decide) (by decide)
      · rename ¬ n.fmod 13 = 12 => c12
        unfold Held
        exact made_load Marks.intro (form_lt c12) ho hF (hK.mono fun _ h => List.mem_append_right _ (List.mem_append_right _ h)) (hE.mono fun _ h => List.mem_append_right _ (List.mem_append_right _ h)) hxl (by omega) (hr1.mono fun _ h => List.mem_append_right _ (List.mem_append_left _ h)) A2 _ _ _ _ _ _ _ _ _ _ _ _ _ _ KB FX KX (fun p hp => NY p (.tail _ (.tail _ (.tail _ hp)))) KT rfl (by decide) (by decide)
    intro x dv FL2 xs2 tl3 h3 tk3 F3 N3 A3 hF3 hK3 hxl3 hpr hdv
    obtain ⟨dx, pes, pn, hx1, hx2, hx3, hP⟩ := hpr.prd (dbD _ _)
    obtain ⟨da, dus, dn, rfl, hd5, hda⟩ := DIn.tup_inv (show DIn tl1 d1 (.tup _) from hd1)
    have N4 := news_dup (news_dup N3 (ledA_rest hx2)) (.tail _ (ledA_rest hx1))
    clear N3 FX NY
    k_steps
    unfold Held
    rename Fr _ _ _ _ => FX
    rename News _ _ _ _ => NX
    refine attr_klass Marks.intro (formOf_lt n) (.head _) (.tail _ (.head _)) hx3 (hdv.mono fun _ h => .tail _ (.tail _ (ledA_rest h))) _ _ _ _ _ _ _ _ _ _ _ _ _ _ _ _ KB FX KX NX KT rfl (by decide) (by decide) ?_
    clear FX NX
    intro kv h4 tk4 F4 N4 hkv
    k_steps
    unfold Held
    rename Fr _ _ _ _ => FX
    rename News _ _ _ _ => NX
    rename DbV _ _ => hDb
    have up : ∀ p ∈ tl3 ++ (tl2 ++ (tl1 ++ rest)), p ∈ ((x, instObj 109 dx) :: (dx, dictOf pes pn) :: ledA it io fo (listOf vs.toArray nf) FL2 (tl3 ++ (tl2 ++ (tl1 ++ rest))) : Led) := fun _ h => .tail _ (.tail _ (ledA_rest h))
    have in1 : ∀ p ∈ tl1, p ∈ tl3 ++ (tl2 ++ (tl1 ++ rest)) := fun _ h => List.mem_append_right _ (List.mem_append_right _ (List.mem_append_left _ h))
    refine ne_due (k := formOf n) (o := o) (b := baseOf n) NX (Nat.le_of_ble_eq_true rfl) (.head _) (.tail _ (up _ (in1 _ hd5))) (hda.mono fun _ h => .tail _ (up _ (in1 _ h))) hDb (hkv.mono fun _ h => .tail _ h) (hdv.mono fun _ h => .tail _ (up _ h)) ?_
    obtain ⟨fes3, fn3, g1, g2, g3⟩ := hF3.own
    have N5 := news_dup (news_dup (fun p (hp : p ∈ ledA it io fo (listOf vs.toArray nf) FL2 (tl3 ++ (tl2 ++ (tl1 ++ rest)))) => NX p (.tail _ (.tail _ (.tail _ hp)))) (.tail _ (.tail _ (List.mem_append_left _ g2)))) (.tail _ (.tail _ (.tail _ (List.mem_append_left _ g1))))
    clear NX
    change News _ _ _ _ at N5
    k_steps
    · unfold Held
      rename Fr _ _ _ _ => FX
      rename News _ _ _ _ => NX
      rename_i l1_
      have hl : ∀ p ∈ ledA it io fo (listOf vs.toArray nf) FL2 (tl3 ++ (tl2 ++ (tl1 ++ rest))), @LT.lt Nat _ p.1 _ := forall_in_cons l1_.2.2.1 (forall_in_cons l1_.2.2.2.1 (kst_ltOf l1_.2.2.2.2))
      refine append_turn FX NX (fun p hp => by rcases List.mem_cons.mp hp with rfl | hp; exact .head _; exact .tail _ (.tail _ (.tail _ hp))) A3 hl hvl (by omega) ?_
      clear FX NX
      intro h5 F5 N5
      k_steps
      unfold Held
      refine turn_end rfl F5 N5 ?_ A3 hl hvl (hE.mono fun _ h => List.mem_append_right _ (List.mem_append_right _ (List.mem_append_right _ h))) hF3 hK3 hxl3 (fun p hp => List.mem_append_right _ (List.mem_append_right _ (List.mem_append_right _ (hb p hp)))) (formOf_lt n) ho (form_dec n) hpr hdv (hd1.mono in1)
      intro y hy
      have hy2 := hy
      simp only [namesA, List.mem_cons, List.not_mem_nil, or_false, not_or] at hy2
      obtain ⟨y1, y2, y3, y4, y5, y6, y7, y8⟩ := hy2
      simp only [if_neg y1, if_neg y2, if_neg y3, if_neg y4, if_neg y5, if_neg y6, if_neg y7, if_neg y8, mL_off hy]
    rename ¬ n.fmod 13 = 12 => c12
    unfold Held
    rename Fr _ _ _ _ => FX
    rename News _ _ _ _ => NX
    refine made_again Marks.intro (form_lt c12) ho hF3 hK3 (List.mem_append_right _ (.head _)) hxl3 (by omega) (hr2.mono fun _ h => List.mem_append_right _ (List.mem_append_left _ h)) A3 _ _ _ _ _ _ _ _ _ _ _ _ _ _ _ KB FX KX (fun p hp => NX p (.tail _ (.tail _ hp))) KT rfl (by decide) (by decide) ?_
    clear FX NX
    intro h4 tk4 F4 N4
    k_steps
    · unfold Held
      rename Fr _ _ _ _ => FX
      rename News _ _ _ _ => NX
      rename_i l1_
      have hl : ∀ p ∈ ledA it io fo (listOf vs.toArray nf) FL2 (tl3 ++ (tl2 ++ (tl1 ++ rest))), @LT.lt Nat _ p.1 _ := forall_in_cons l1_.1 (forall_in_cons l1_.2.1 (kst_ltOf l1_.2.2))
      refine append_turn FX NX (fun _ h => h) A3 hl hvl (by omega) ?_
      clear FX NX
      intro h5 F5 N5
      k_steps
      unfold Held
      refine turn_end rfl F5 N5 ?_ A3 hl hvl (hE.mono fun _ h => List.mem_append_right _ (List.mem_append_right _ (List.mem_append_right _ h))) hF3 hK3 hxl3 (fun p hp => List.mem_append_right _ (List.mem_append_right _ (List.mem_append_right _ (hb p hp)))) (formOf_lt n) ho (form_dec n) hpr hdv (hd1.mono in1)
      intro y hy
      have hy2 := hy
      simp only [namesA, List.mem_cons, List.not_mem_nil, or_false, not_or] at hy2
      obtain ⟨y1, y2, y3, y4, y5, y6, y7, y8⟩ := hy2
      simp only [if_neg y1, if_neg y2, if_neg y3, if_neg y4, if_neg y5, if_neg y6, if_neg y7, if_neg y8, mL_off hy]
  case fin =>
    intro g m led h tk hst F N
    obtain ⟨rfl, c, nf, vs, es, FL, xs, rest, rfl, rfl, hvl, hE, hF, hK, hxl, hfl, hfo, hb⟩ := hst
    have h9 : vs.length ≤ 9 := by
      have e1 := hI.length
      omega
    obtain ⟨O, hO1, hO2, hEO, hap, NO⟩ := loopB_start (fun p hp => N p (by
      rcases List.mem_cons.mp hp with h | h
      · rw [h]; exact .head _
      · exact .tail _ (List.mem_append_right _ h))) (hb _ (.tail _ (.tail _ (.tail _ (.head _))))) (Nat.ne_of_gt bfo.2.2.2.2) hE
    have hDi := hO2 _ (hb _ (.tail _ (.head _))) nofun
    change News _ _ _ ((148, tabObj #[]) :: (fo, _) :: O) at NO
    clear N
    k_steps
    unfold Held
    refine wpAny_For ?_
    k_steps
    unfold Held
    rename Fr _ _ _ _ => FA
    rename News _ _ _ _ => NA
    refine iter_lst_led (items := vs) (n := nf) FA NA (.tail _ (.head _)) ?_
    clear FA NA
    intro ot oio0 hi Fi Ni hoio obit
    dsimp only
    refine law_loopL namesB [(148, tabObj #[])] ((fo, listOf vs.toArray nf) :: O) rfl (.head _) Fi Ni (.inl rfl) hap (fun p hp => Nat.ne_of_lt (obit p hp)) hoio ?turnB ?finB
    clear Fi Ni hoio obit
    case finB =>
      intro c1 TB h tk hT apB F N
      obtain ⟨tps, htps⟩ := lamTab_ps hT
      have N1 := news_dup (news_dup N (List.mem_append_left _ htps)) (.tail _ (List.mem_append_right _ (.tail _ hDi)))
      clear N
      k_steps
      unfold Held
      rename Fr _ _ _ _ => FX
      rename News _ _ _ _ => NX
      refine lost_of Marks.intro (idOf_length _) _ _ _ _ _ _ _ _ _ _ _ _ _ _ _ _ _ _ _ KB FX KX NX KT rfl (by decide) (by decide) ?_
      clear FX NX
      rintro _ h5 tk5 F5 N5 rfl
      k_steps
    case turnB =>
      intro i v c1 TB oio h tk hv hT apB F N hoio neo
      obtain ⟨e, hes, hee⟩ := hEO.at hv
      obtain ⟨lb, tA, n1, da, dn, oT, v1, v3, v4, rfl, hlb, hm, hd, hdb, hdt, hpr, hek, heo⟩ := hee.parts
      have upB : ∀ p ∈ O, p ∈ TB ++ ((ot, oio) :: (fo, listOf vs.toArray nf) :: O) := fun _ h => List.mem_append_right _ (.tail _ (.tail _ h))
      refine lst_go N (List.mem_append_right _ (.head _)) hoio ?_
      have N1 := news_dup (news_dup N (upB _ hd)) (.tail _ (upB _ hm))
      clear N
      k_steps
      unfold Held
      refine wpAny_For ?_
      k_steps
      unfold Held
      rename Fr _ _ _ _ => FA
      rename News _ _ _ _ => NA
      have NB := fun p (hp : p ∈ TB ++ ((ot, oio) :: (fo, listOf vs.toArray nf) :: O)) => NA p (.tail _ (.tail _ hp))
      clear NA
      change News _ _ _ _ at NB
      refine iter_lst_led (items := vs) (n := nf) FA NB (List.mem_append_right _ (.tail _ (.head _))) ?_
      clear FA NB
      intro jt jio0 hi Fi Ni hjio jbit
      dsimp only
      refine law_loopL namesC TB ((ot, oio) :: (fo, listOf vs.toArray nf) :: O) rfl (.tail _ (.head _)) Fi Ni hT apB (fun p hp => Nat.ne_of_lt (jbit p hp)) hjio ?turnC ?finC
      clear Fi Ni hjio jbit
      case finC =>
        intro c2 TB2 h2 tk2 hT2 apC F2 N2
        have N3 := news_dup N2 (List.mem_append_right _ (.tail _ (.tail _ hd)))
        clear N2
        have upO : ∀ p ∈ O, p ∈ ((ot, oio) :: (fo, listOf vs.toArray nf) :: O : Led) := fun _ h => .tail _ (.tail _ h)
        k_steps
        unfold Held
        rename Fr _ _ _ _ => FX
        rename News _ _ _ _ => NX
        refine compared_plain Marks.intro hT2 (hpr.mono upO) (dbD _ _) apC (.inl ⟨_, _, rfl⟩) _ _ _ _ _ _ _ _ _ _ _ _ _ _ _ KB FX KX KC (fun p hp => NX p (.tail _ hp)) KT rfl (by decide) (by decide) ?_
        clear FX NX
        intro l nl TB4 h4 tk4 vs4 hT4 F4 N4 ap4 nl4 len4 rf4
        have N5 := news_dup N4 (.tail _ (List.mem_append_right _ (upO _ hd)))
        clear N4
        k_steps
        unfold Held
        rename Fr _ _ _ _ => FX
        rename News _ _ _ _ => NX
        refine ne_refd NX (.tail _ (.tail _ (.tail _ (.head _)))) (.head _) rf4 (refd_rep _ 6) len4 rfl (Nat.le_of_ble_eq_true rfl) ?_
        have N6 := news_dup (fun p hp => NX p (.tail _ (.tail _ (.tail _ (.tail _ hp))))) (List.mem_append_right _ (upO _ hd))
        clear NX
        k_steps
        unfold Held
        rename News _ _ _ _ => NX
        refine compared_plain Marks.intro hT4 (hpr.mono upO) (dbD _ _) ap4 (.inr ⟨_, _, rfl⟩) _ _ _ _ _ _ _ _ _ _ _ _ _ _ _ KB FX KX KC (fun p hp => NX p (.tail _ hp)) KT rfl (by decide) (by decide) ?_
        clear FX NX
        intro l' nl' TB5 h5 tk5 vs5 hT5 F5 N5 ap5 nl5 len5 rf5
        k_steps
        unfold Held
        rename Fr _ _ _ _ => FX
        rename News _ _ _ _ => NX
        refine ne_refd NX (.tail _ (.tail _ (.head _))) (.head _) rf5 (refd_rep _ 6) len5 rfl (Nat.le_of_ble_eq_true rfl) ?_
        k_steps
        unfold Held
        refine loop_end ?_ FX NX (fun p hp => .tail _ (.tail _ (.tail _ hp))) hT5 ap5 rfl
        intro y hy
        have hyC : y ∉ namesC := fun h => hy (by
          simp only [namesB, namesC, List.mem_cons, List.not_mem_nil, or_false] at h ⊢
          rcases h with h | h | h | h <;> simp [h])
        have hy2 := hy
        simp only [namesB, List.mem_cons, List.not_mem_nil, or_false, not_or] at hy2
        obtain ⟨-, -, -, z1, -, -, z2, -, z3, -, -, -, -⟩ := hy2
        simp only [mN_off hyC, if_neg z1, if_neg z2, if_neg z3, mN_off hy]
      case turnC =>
        intro j v' c2 TB2 jio h2 tk2 hv' hT2 apC F2 N2 hjio nej
        obtain ⟨f, hfs, hff⟩ := hEO.at hv'
        obtain ⟨gb, tO, n2, db, dm, pT, u1, u3, u4, rfl, hgb, hmo, hdo, hub, hut, hqr, hfk, hfo8⟩ := hff.parts
        have upC : ∀ p ∈ O, p ∈ TB2 ++ ((jt, jio) :: (ot, oio) :: (fo, listOf vs.toArray nf) :: O) := fun _ h => List.mem_append_right _ (.tail _ (.tail _ (.tail _ h)))
        refine lst_go N2 (List.mem_append_right _ (.head _)) hjio ?_
        have N3 := news_dup (news_dup (news_dup N2 (upC _ hd)) (.tail _ (upC _ hdo))) (.tail _ (.tail _ (upC _ hmo)))
        clear N2
        have up3 : ∀ p ∈ O, p ∈ ((tO, triO f.x (.ref db) gb n2) :: (db, tupO #[.bytes (oidOf f.k f.o).toArray pT, u1, .bool (weakOf f.k), u3, u4] dm) :: (da, tupO #[.bytes (oidOf e.k e.o).toArray oT, v1, .bool (weakOf e.k), v3, v4] dn) :: (TB2 ++ ((jt, jio) :: (ot, oio) :: (fo, listOf vs.toArray nf) :: O)) : Led) := fun _ h => .tail _ (.tail _ (.tail _ (upC _ h)))
        k_steps
        unfold Held
        rename Fr _ _ _ _ => FX
        rename News _ _ _ _ => NX
        refine wpAny_If ?_
        refine test_out false FX NX ?t1 ?_
        case t1 =>
          k_steps
          · unfold Held; exact ⟨rfl, _, _, rfl, FX, NX⟩
          · unfold Held; exact ⟨rfl, _, _, rfl, FX, NX⟩
          unfold Held
          refine is_dec NX (hpr.mono up3) (hqr.mono up3) ?_
          k_steps
          unfold Held
          refine eq_data NX (hdt.mono up3) (hut.mono up3) (Nat.le_of_ble_eq_true rfl) ?_
          k_steps
          unfold Held
          refine ne_bools ?_ ?_
          · exact same_dec hK hes hfs hlb hgb (by assumption) (by assumption) hek hfk heo hfo8
          k_steps
          unfold Held; exact ⟨rfl, _, _, rfl, FX, NX⟩
        clear FX NX
        intro h3 tk3 F3 N3
        k_steps
        unfold Held
        rename Fr _ _ _ _ => FX
        rename News _ _ _ _ => NX
        have upO : ∀ p ∈ O, p ∈ ((jt, jio) :: (ot, oio) :: (fo, listOf vs.toArray nf) :: O : Led) := fun _ h => .tail _ (.tail _ (.tail _ h))
        refine compared_pr Marks.intro hT2 (hpr.mono upO) (dbD _ _) (hqr.mono upO) (dbD _ _) apC _ _ _ _ _ _ _ _ _ _ _ _ _ _ _ KB FX KX KC (fun p hp => NX p (.tail _ (.tail _ (.tail _ hp)))) KT rfl (by decide) (by decide) ?_ ?_
        all_goals clear FX NX
        · intro hC l nl TB4 h4 tk4 hT4 F4 N4 ap4 nl4
          have upD : ∀ p ∈ O, p ∈ TB4 ++ ((jt, jio) :: (ot, oio) :: (fo, listOf vs.toArray nf) :: O) := fun _ h => List.mem_append_right _ (.tail _ (.tail _ (.tail _ h)))
          have N5 := news_dup (news_dup (news_dup N4 (.tail _ (upD _ hd))) (.tail _ (.tail _ (upD _ hdo)))) (.tail _ (.tail _ (.head _)))
          have up5 : ∀ p ∈ O, p ∈ ((l, listOf ansR nl) :: (db, tupO #[.bytes (oidOf f.k f.o).toArray pT, u1, .bool (weakOf f.k), u3, u4] dm) :: (da, tupO #[.bytes (oidOf e.k e.o).toArray oT, v1, .bool (weakOf e.k), v3, v4] dn) :: (l, listOf ansR nl) :: (TB4 ++ ((jt, jio) :: (ot, oio) :: (fo, listOf vs.toArray nf) :: O)) : Led) := fun _ h => .tail _ (.tail _ (.tail _ (.tail _ (upD _ h))))
          clear N4
          k_steps
          unfold Held
          rename Fr _ _ _ _ => FX
          rename News _ _ _ _ => NX
          refine wpAny_If ?_
          refine test_out true FX NX ?t2 ?_
          case t2 =>
            k_steps
            unfold Held
            by_cases hxy : e.x = f.x
            · refine is_as true (iff_of_true hxy rfl) NX (hpr.mono up5) (hqr.mono up5) ?_
              k_steps
              unfold Held; exact ⟨rfl, _, _, rfl, FX, NX⟩
            · obtain ⟨q1, q2, q3, q4⟩ := hC.resolve_left hxy
              refine is_as false (iff_of_false hxy nofun) NX (hpr.mono up5) (hqr.mono up5) ?_
              k_steps
              unfold Held
              rename Fr _ _ _ _ => FZ
              rename News _ _ _ _ => NZ
              refine eq_two_as true (iff_of_true ⟨q1, q2⟩ rfl) NZ (.tail _ (.head _)) (.head _) hdb hub (Nat.le_of_ble_eq_true rfl) ?_
              have NZ2 := fun p hp => NZ p (.tail _ (.tail _ hp))
              clear NZ
              change News _ _ _ _ at NZ2
              k_steps
              unfold Held; exact ⟨rfl, _, _, rfl, FZ, NZ2⟩
          clear FX NX
          intro h5 tk5 F5 N5
          k_steps
          unfold Held
          rename Fr _ _ _ _ => FX
          rename News _ _ _ _ => NX
          refine ne_ans NX (.tail _ (.head _)) (.head _) (Nat.le_of_ble_eq_true rfl) ?_
          k_steps
          unfold Held
          refine loop_end ?_ FX NX (fun p hp => .tail _ (.tail _ (.tail _ (.tail _ (.tail _ hp))))) hT4 ap4 rfl
          intro y hy
          have hy2 := hy
          simp only [namesC, List.mem_cons, List.not_mem_nil, or_false, not_or] at hy2
          obtain ⟨y1, y2, y3, y4⟩ := hy2
          simp only [if_neg y1, if_neg y2, if_neg y3, if_neg y4, mN_off hy]
        · intro hC l nl TB4 h4 tk4 vs4 hT4 F4 N4 ap4 nl4 len4 rf4
          have upD : ∀ p ∈ O, p ∈ TB4 ++ ((jt, jio) :: (ot, oio) :: (fo, listOf vs.toArray nf) :: O) := fun _ h => List.mem_append_right _ (.tail _ (.tail _ (.tail _ h)))
          have N5 := news_dup (news_dup (news_dup N4 (.tail _ (upD _ hd))) (.tail _ (.tail _ (upD _ hdo)))) (.tail _ (.tail _ (.head _)))
          have up5 : ∀ p ∈ O, p ∈ ((l, listOf vs4.toArray nl) :: (db, tupO #[.bytes (oidOf f.k f.o).toArray pT, u1, .bool (weakOf f.k), u3, u4] dm) :: (da, tupO #[.bytes (oidOf e.k e.o).toArray oT, v1, .bool (weakOf e.k), v3, v4] dn) :: (l, listOf vs4.toArray nl) :: (TB4 ++ ((jt, jio) :: (ot, oio) :: (fo, listOf vs.toArray nf) :: O)) : Led) := fun _ h => .tail _ (.tail _ (.tail _ (.tail _ (upD _ h))))
          clear N4
          k_steps
          unfold Held
          rename Fr _ _ _ _ => FX
          rename News _ _ _ _ => NX
          refine wpAny_If ?_
          refine test_out false FX NX ?t2 ?_
          case t2 =>
            k_steps
            unfold Held
            have hxy : ¬ e.x = f.x := fun h => hC (.inl h)
            refine is_as false (iff_of_false hxy nofun) NX (hpr.mono up5) (hqr.mono up5) ?_
            k_steps
            unfold Held
            rename Fr _ _ _ _ => FZ
            rename News _ _ _ _ => NZ
            by_cases hq : oidOf e.k e.o = oidOf f.k f.o ∧ dbOf e.k e.b = dbOf f.k f.b
            · refine eq_two_as true (iff_of_true hq rfl) NZ (.tail _ (.head _)) (.head _) hdb hub (Nat.le_of_ble_eq_true rfl) ?_
              have NZ2 := fun p hp => NZ p (.tail _ (.tail _ hp))
              clear NZ
              change News _ _ _ _ at NZ2
              k_steps
              · unfold Held; exact ⟨rfl, _, _, rfl, FZ, NZ2⟩
              · unfold Held; exact ⟨rfl, _, _, rfl, FZ, NZ2⟩
              exact absurd (.inr ⟨hq.1, hq.2, by assumption, by assumption⟩) hC
            · refine eq_two_as false (iff_of_false hq nofun) NZ (.tail _ (.head _)) (.head _) hdb hub (Nat.le_of_ble_eq_true rfl) ?_
              have NZ2 := fun p hp => NZ p (.tail _ (.tail _ hp))
              clear NZ
              change News _ _ _ _ at NZ2
              k_steps
              unfold Held; exact ⟨rfl, _, _, rfl, FZ, NZ2⟩
          clear FX NX
          intro h5 tk5 F5 N5
          k_steps
          unfold Held
          rename Fr _ _ _ _ => FX
          rename News _ _ _ _ => NX
          refine ne_refd NX (.tail _ (.tail _ (.head _))) (.head _) rf4 (refd_rep _ 6) len4 rfl (Nat.le_of_ble_eq_true rfl) ?_
          k_steps
          unfold Held
          refine loop_end ?_ FX NX (fun p hp => .tail _ (.tail _ (.tail _ (.tail _ (.tail _ (.tail _ hp)))))) hT4 ap4 rfl
          intro y hy
          have hy2 := hy
          simp only [namesC, List.mem_cons, List.not_mem_nil, or_false, not_or] at hy2
          obtain ⟨y1, y2, y3, y4⟩ := hy2
          simp only [if_neg y1, if_neg y2, if_neg y3, if_neg y4, mN_off hy])

end Mine
end
set_option maxRecDepth 100000 in
set_option maxHeartbeats 8000000 in
theorem PySem.Challenge.cw_vy0039_01_holds : PySem.Challenge.rw_vy0039_01.Holds :=
  Mine.lawZ
