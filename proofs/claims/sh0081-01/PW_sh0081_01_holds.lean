import PyProof.Rows.All
import Wide.All
import OpenK.AllK
import Wide.FinOn
import PySem.Challenge.RW_sh0081_01
open PySem PySem.W PyProof.Rows PySem.Calls PySem.Spec
set_option Elab.async false
set_option maxRecDepth 100000
set_option maxHeartbeats 8000000
namespace Mine
open_top hd81 for PySem.Challenge.rw_sh0081_01
theorem fill : PySem.Challenge.rw_sh0081_01 = PySem.Challenge.rw_sh0081_01 ∧ hd81.heap_39 = hd81.heap_39 := by
  k_fill
  exact ⟨rfl, rfl⟩
abbrev PR : Program := RowW.prog (OpenRow.toRowW (OpenLaw.row PySem.Challenge.rw_sh0081_01))
abbrev TopX (mean : ExcName → Option Value) (mg mb : Str → Option Value) (h : Heap) : Prop := Top hd81.view_39 (looseW hd81.view_39 []) mean mg mb h
/-- what stood before, but the frame, stands -/
def Kept (h : Heap) (L : Addr) (h' : Heap) : Prop := ∀ b o, b ≠ L → h.get? b = some o → h'.get? b = some o

section
variable {prog : Program} {w : World} {A₀ A : Around} {s : Shared} {K : Frag} {L : Addr} {h₀ base : Heap} {m mg mb : Str → Option Value} {p : Program} {loose : List Str} {mean : ExcName → Option Value}
/-- a call with all that stands as its ground -/
theorem code_pure {env : Env} {outer : List Env} {R : Result → Shared → Prop} {name qual : Str} {params : Arguments} {body : List Stmt} {scope : Scope} {dV kV doc pm cdv ct oc : Value} {an od : Option Addr} {osl : Array (Option Value)} {f : Addr} {args : Args} {binds : List (Str × Value)}
    (B : Below A₀ base outer h₀) (F : Fr h₀ L s.heap m) (X₀ : K.In h₀) (T : Top p loose mean mg mb h₀) (hA : A.frames = some (env :: outer)) (hf : env.frame = some L) (hke : env.scope.kind = .function)
    (ho : K.lookup f = some ⟨oc, od, .func (fnOf name qual params body scope dV kV doc pm an cdv ct), osl⟩) (hcd : codeIn K cdv qual = true) (hroom : A.depth < recursionLimit)
    (hbind : BindsTo s (fnOf name qual params body scope dV kV doc pm an cdv ct) args binds) (hloc : ∀ y ∈ binds, scope.names.lookup y.1 = some .local)
    (h : ∀ L' h₁, Fr h₀ L s.heap m → Fr s.heap L' h₁ (fun y => binds.reverse.lookup y) → News s.heap L' h₁ [] → Below A base (env :: outer) s.heap → K.In s.heap → Top p loose mean mg mb s.heap →
      wpAny (model prog w) (A.deeper (envOf qual scope L' f cdv)) (execs body (envOf qual scope L' f cdv))
        (fun fl s' => LeaveK h₀ L m s.heap (fun r s'' => Kept s.heap L s''.heap → R r s'') (match fl with | .ret v => v | _ => .none) s')
        (fun e s' => wpAny (model prog w) (A.deeper (envOf qual scope L' f cdv)) (leaving (envOf qual scope L' f cdv) e) (fun _ s'' => R (.error e) s'') (fun e' s'' => R (.error e') s'') s')
        { s with heap := h₁, toks := s.toks + binds.length })
    (hco : scope.isCoroutine = false) (hgen : scope.isGenerator = false) (hk : scope.kind = .function)
    (hcell : ∀ x ∈ scope.names, x.2 ≠ .cell) : codeAny (model prog w) A (.call (.ref f) args) R s := by
  obtain ⟨FG, BG, st, lv⟩ := groundX (R := fun r s'' => Kept s.heap L s''.heap → R r s'') B F (News.nil (h := s.heap)) hA hf hke
  have X := X₀.keeps F.keep
  refine codeAny_call_def (fd := fnOf name qual params body scope dV kV doc pm an cdv ct) (body := body) (binds := binds) hroom (X _ _ ho) rfl (T.nolimit.keeps F.keep) (codeRec_of X hcd) rfl hbind hcell hloc (fun h₁ hns hk₁ => ?_) hco hgen hk
  refine wpAny_mono (h s.heap.objs.size h₁ F ⟨hns, hk₁, Nat.le_refl _⟩ News.nil BG X (T.keeps F.keep)) (fun fl s' hl => ?_) fun _ _ y => y
  obtain ⟨L', m', news', F', N', k⟩ := hl
  exact lv _ _ ⟨L', m', news', F', N', k⟩ fun b o _ e => F'.keep b o e

/-- the same, of a def that catches, called from the law's own frame -/
theorem code_pureS {R : Result → Shared → Prop} {cn : Str} {cs : Scope} {a : Addr} {ccd : Value} {name qual : Str} {params : Arguments} {body : List Stmt} {scope : Scope} {dV kV doc pm cdv ct oc : Value} {an od : Option Addr} {osl : Array (Option Value)} {f : Addr} {args : Args} {binds : List (Str × Value)}
    (B : Below A₀ base [] h₀) (F : Fr h₀ L s.heap m) (X₀ : K.In h₀) (T : Top p loose mean mg mb h₀) (hA : A.frames = some [envOf cn cs L a ccd])
    (ho : K.lookup f = some ⟨oc, od, .func (fnOf name qual params body scope dV kV doc pm an cdv ct), osl⟩) (hcd : codeIn K cdv qual = true) (hroom : A.depth < recursionLimit)
    (hbind : BindsTo s (fnOf name qual params body scope dV kV doc pm an cdv ct) args binds) (hloc : ∀ y ∈ binds, scope.names.lookup y.1 = some .local)
    (h : ∀ L' h₁, Fr h₀ L s.heap m → Fr s.heap L' h₁ (fun y => binds.reverse.lookup y) → News s.heap L' h₁ [] → Below A base [envOf cn cs L a ccd] s.heap → K.In s.heap → Top p loose mean mg mb s.heap → KtsDicts ([envOf cn cs L a ccd].filterMap (·.frame)) s.heap →
      wpAny (model prog w) (A.deeper (envOf qual scope L' f cdv)) (execs body (envOf qual scope L' f cdv))
        (fun fl s' => LeaveS0 ([envOf cn cs L a ccd].filterMap (·.frame)) h₀ L m s.heap (fun r s'' => Kept s.heap L s''.heap → R r s'') (match fl with | .ret v => v | _ => .none) s')
        (fun e s' => wpAny (model prog w) (A.deeper (envOf qual scope L' f cdv)) (leaving (envOf qual scope L' f cdv) e) (fun _ s'' => R (.error e) s'') (fun e' s'' => R (.error e') s'') s')
        { s with heap := h₁, toks := s.toks + binds.length })
    (hck : cs.kind = .function) (hco : scope.isCoroutine = false) (hgen : scope.isGenerator = false) (hk : scope.kind = .function)
    (hcell : ∀ x ∈ scope.names, x.2 ≠ .cell) : codeAny (model prog w) A (.call (.ref f) args) R s := by
  have X := X₀.keeps F.keep
  refine codeAny_call_def (fd := fnOf name qual params body scope dV kV doc pm an cdv ct) (body := body) (binds := binds) hroom (X _ _ ho) rfl (T.nolimit.keeps F.keep) (codeRec_of X hcd) rfl hbind hcell hloc (fun h₁ hns hk₁ => ?_) hco hgen hk
  obtain ⟨oL, es, ep, hLg, hLd, hN, hNs, st, B₂⟩ := kts_enter B F (News.nil (h := s.heap)) hA hck
  have hLg : s.heap.get? L = some oL := hLg
  have B₂ : Below A base [envOf cn cs L a ccd] s.heap := B₂
  refine wpAny_mono (h s.heap.objs.size h₁ F ⟨hns, hk₁, Nat.le_refl _⟩ News.nil B₂ X (T.keeps F.keep) (fun b hb => by
      rcases kts_mem hb with rfl | z
      · exact ⟨oL, es, ep, hLg, hLd⟩
      · simp at z)) (fun fl s' hl => ?_) fun _ _ y => y
  obtain ⟨g', L', m', news', T', F', N', k⟩ := hl
  have nL₀ : h₀.get? L = none := kts_self F
  obtain ⟨sl, hs⟩ := T'.up hLg
  refine k ⟨hNs sl _ (F'.keep _ _ hs), fun b o e => F'.keep b o (T'.other b o (F.keep b o e) (fun q => by
    rcases kts_mem q with z | z
    · rw [z, nL₀] at e
      cases e
    · simp at z)), F.above⟩ (fun p hp => ⟨(N' p hp).1, fun q => ?_, ?_⟩) (fun b o ne e => F'.keep b o (T'.other b o e (fun q => by
    rcases kts_mem q with z | z
    · exact ne z
    · simp at z)))
  · have := (N' p hp).2.2; rw [q, hs] at this; cases this
  · cases q : h₀.get? p.1 with
    | none => rfl
    | some o =>
      obtain ⟨sl', hs'⟩ := T'.up (F.keep _ _ q)
      have := (N' p hp).2.2
      rw [hs'] at this
      cases this
end
section
open PySem.Builtin
theorem slot_ble : Slot "bytes" (cmpInfo .LtE).2.1 "bytes.__le__" :=
  .of (owner := "bytes") (n := "__le__") (by rw [typeLookup_type, builtinLookup_eq_fast]; kernel_rfl) (by decide +kernel) (by decide +kernel) (by decide +kernel)
    (by first | exact .inl (by decide +kernel) | exact .inr (by decide +kernel)) (by rw [isSubtype_type]; kernel_rfl)
theorem entry_ble : entryFor table "bytes.__le__" = some Builtin.«bytes.__le__» := entryFor_of_tree (by kernel_rfl)
theorem args_ble (a b : Value) : argsOk "bytes.__le__" ⟨[a, b], []⟩ := by
  unfold argsOk; rw [signature?_of (id := "bytes.__le__") (n := ['_', '_', 'e', 'l', '_', '_']) (o := ['s', 'e', 't', 'y', 'b']) (by kernel_rfl) FB.owner_bytes]; kernel_rfl
theorem gives_ble (b c : Array UInt8) (t u : Tok) : Gives («bytes.__le__» ⟨[.bytes b t, .bytes c u], []⟩) (.val (.bool (Bytes.order b.toList c.toList != .gt))) := by
  refine .of_wp fun M A E s Q hq => ?_
  show wpAny M A (isInstance (.bytes c u) (.type "bytes") >>= fun r => _) _ E s
  refine wpAny_bind (wpAny_isInstance (typeIs_bytes s c u) F.sub_bytes_bytes ?_)
  exact wpAny_pure ⟨_, rfl, hq⟩
theorem typeName_bytes : typeName (.type "bytes") = pure "bytes" := by unfold typeName; rw [find?_eq_fast]; kernel_rfl
theorem no_index_bytes : typeLookup (.type "bytes") "__index__" = pure none := by rw [typeLookup_type, builtinLookup_eq_fast]; kernel_rfl
theorem gives_ord_b (c : UInt8) (t : Tok) : Gives («ord» ⟨[.bytes #[c] t], []⟩) (.int c.toNat) := by
  refine .of_wp fun M A E s Q hq => ?_
  show wpAny M A (retInt ((c.toNat : Nat) : Int)) _ E s
  exact wpAny_bind (wpAny_mkInt (wpAny_pure ⟨_, rfl, hq⟩))
end
section
variable {prog : Program} {w : World} {A : Around} {E : Value → Shared → Prop} {s : Shared} {b c : Array UInt8} {t u : Tok}
theorem le_bytes {Q : Value → Shared → Prop} (h : Q (.bool (Builtin.Bytes.order b.toList c.toList != .gt)) s) : wpAny (model prog w) A (compareOp .LtE (.bytes b t) (.bytes c u)) Q E s :=
  compareOp_gives (op := .LtE) (typeIs_bytes s b t) (typeIs_bytes s c u) slot_ble entry_ble (args_ble _ _) (gives_ble b c t u) (fun e => nomatch e) h
theorem ord_bytes {x : UInt8} {Q : Value → Shared → Prop} (h : Q (.int x.toNat s.toks) { s with toks := s.toks + 1 }) : wpAny (model prog w) A (call (.builtin "ord") [.bytes #[x] t]) Q E s :=
  call_function_meets F.kind_ord F.plain_ord F.entry_ord (F.args_ord1 _) (gives_ord_b x t).meets h
theorem cut_bytes {n : Nat} {Q : String → Shared → Prop} (h : Q "bytes" s) : wpAny (model prog w) A (typeNameOfCut n (.bytes b t)) Q E s := by
  unfold typeNameOfCut shownTypeOf
  refine wpAny_bind (wpAny_bind (wpAny_typeOf (typeIs_bytes _ b t) ?_))
  simp only [show (Value.type "bytes" == Value.type "builtin_function_or_method") = false by decide, Bool.false_eq_true, if_false]
  refine wpAny_pure ?_
  rw [show typeNameCut n (.type "bytes") = typeName (.type "bytes") from rfl, typeName_bytes]
  exact wpAny_pure h
theorem asIndex_bytes {Q : Int → Shared → Prop} (hh : A.handled = none) (h : ∀ h' tk e, Heap.NewExc s.heap h' e "TypeError" → E (.ref e) { s with heap := h', toks := tk }) : wpAny (model prog w) A (asIndex (.bytes b t)) Q E s := by
  unfold asIndex
  refine wpAny_bind (wpAny_of_eq (a := none) rfl ?_)
  refine wpAny_bind (wpAny_callSpecial?_none (typeIs_bytes s b t) no_index_bytes ?_)
  refine wpAny_bind (cut_bytes ?_)
  exact_raiseError plainExc_TypeError hh h
theorem in_bytes {Q : Value → Shared → Prop} (hh : A.handled = none) (h : ∀ h' tk, (∀ a o, s.heap.get? a = some o → h'.get? a = some o) → Q (.bool (Builtin.Bytes.find? c b 0 c.size).isSome) { s with heap := h', toks := tk }) :
    wpAny (model prog w) A (compareOp .In (.bytes b t) (.bytes c u)) Q E s := by
  refine In_slot (typeIs_bytes s c u) FB.slot_bytes_contains ?_
  refine call_meets (S := fun A R s => A.handled = none ∧ ∀ h' tk, (∀ a o, s.heap.get? a = some o → h'.get? a = some o) → R (.ok (.ret (.bool (Builtin.Bytes.find? c b 0 c.size).isSome))) { s with heap := h', toks := tk }) FB.slot_bytes_contains (typeIs_bytes s c u) FB.entry_bytes_contains (FB.args_bytes_contains_2 _ _) ?_ ⟨hh, fun h' tk hk => wpAny_pure (h h' tk hk)⟩
  refine Meets.of_wp fun prog w A R s hs => ?_
  unfold Builtin.«bytes.__contains__»
  refine wpAny_bind (wpAny_of_eq (a := (Value.bytes c u, [Value.bytes b t])) rfl ?_)
  refine wpAny_bind ?_
  unfold Builtin.Bytes.containsIn
  refine wpAny_bind (wpAny_attempt (asIndex_bytes hs.1 fun h' tk e he => ?_))
  rw [KBy.buffer_eq]
  refine wpAny_bind (wpAny_pure ?_)
  dsimp only
  rw [KBy.buffer_eq]
  refine wpAny_bind (wpAny_pure ?_)
  refine wpAny_bind (wpAny_rule (wpAny_pure ?_))
  exact wpAny_pure ⟨_, rfl, hs.2 h' tk he.keeps⟩
end
theorem tup_no_bytes : typeLookup (.type "tuple") "__bytes__" = pure none := by rw [typeLookup_type, builtinLookup_eq_fast]; kernel_rfl
theorem tup_no_index : typeLookup (.type "tuple") "__index__" = pure none := by rw [typeLookup_type, builtinLookup_eq_fast]; kernel_rfl
theorem tup_no_buffer : typeLookup (.type "tuple") "__buffer__" = pure none := by rw [typeLookup_type, builtinLookup_eq_fast]; kernel_rfl
theorem tup_split : splitId "tuple.__len__" = some ("tuple", "__len__") := by decide +kernel
section
variable {prog : Program} {w : World} {A : Around} {E : Value → Shared → Prop} {s : Shared}
/-- the loop that makes bytes, over what is left of a tuple of ints -/
theorem bt_loop {R : Result → Shared → Prop} {l I S : Addr} {items : List Value} (hh : A.handled = none) (hIS : I ≠ S) (hlI : l ≠ I) (hlS : l ≠ S) :
    ∀ (rs ds : List Int) (us vs : List Value) (s : Shared), items = us ++ vs → IntsAre us ds → IntsAre vs rs → (∀ n ∈ rs, 0 ≤ n ∧ n < 256) → ds.length + rs.length ≤ sizeLine →
      s.heap.IsTuple l items.toArray → s.heap.IsTupleIter I l ds.length → s.heap.get? S = some { cls := .type "bytearray", data := .bytearray (byteArr ds) } →
      (∀ h' t k', (∀ b o, b ≠ I → b ≠ S → s.heap.get? b = some o → h'.get? b = some o) → R (.ok (.ret (.bytes (byteArr (ds ++ rs)) t))) { s with heap := h', toks := k' }) →
      codeAny (model prog w) A (.builtin "bytes.__new__.loop" ⟨[.type "bytes", .ref I, .ref S], []⟩) R s := by
  intro rs
  induction rs with
  | nil =>
    intro ds us vs s he hu hv _ hz hl hit hS hR
    cases hv
    have hlen := hu.length
    refine codeAny_builtin F.bm_entry_loop ?_
    rw [Around.under_plainId F.bm_plain_loop _]
    show wpAny _ A.in1 (pyNext (.ref I) >>= _) _ _ s
    refine wpAny_bind (wpAny_pyNext_tuple_end hh hit hl (by simp [he, hlen]) fun h' hx => ?_)
    have hS' := hx S _ (Ne.symm hIS) hS
    refine wpAny_bind ?_
    unfold Builtin.Bytes.payload Builtin.Bytes.payload?
    refine wpAny_bind (wpAny_bind (wpAny_load hS' ?_))
    refine wpAny_pure (wpAny_pure ?_)
    refine wpAny_bind (wpAny_mkBytes ?_ (by rw [byteArr_size]; simp at hz; omega))
    show wpAny _ _ (if (Value.type "bytes" == Value.type "bytes") = true then _ else _) _ _ _
    refine bm_if_true (by decide) ?_
    rw [List.append_nil] at hR
    first
      | exact wpAny_pure (hR h' _ _ fun b o hb _ e => hx b o hb e)
      | exact wpAny_bind (wpAny_pure (wpAny_pure (hR h' _ _ fun b o hb _ e => hx b o hb e)))
  | cons n rs ih =>
    intro ds us vs s he hu hv hr hz hl hit hS hR
    cases hv with
    | @cons _ t _ _ hv =>
    have hlen := hu.length
    obtain ⟨h0, h1⟩ := hr n (.head _)
    refine codeAny_builtin F.bm_entry_loop ?_
    rw [Around.under_plainId F.bm_plain_loop _]
    show wpAny _ A.in1 (pyNext (.ref I) >>= _) _ _ s
    refine wpAny_bind (wpAny_pyNext_tuple_item (x := .int n t) hit hl (by simp [he, ← hlen]) fun h' hit' hs => ?_)
    have hS' := (hs.2 S (Ne.symm hIS)).trans hS
    refine wpAny_bind (wpAny_holding (wpAny_of_eq (rfl : asIndex (.int n t) = pure n) ?_))
    refine wpAny_bind (wpAny_letGo ?_)
    refine bm_if_false (by simp only [Bool.or_eq_false_iff, decide_eq_false_iff_not]; omega) ?_
    refine wpAny_bind ?_
    show wpAny _ _ (updateBytearray S (·.push n.toNat.toUInt8)) _ _ _
    unfold updateBytearray
    refine wpAny_bind (wpAny_load hS' ?_)
    show wpAny _ _ (update S (Obj.mapBytearray (·.push n.toNat.toUInt8)) >>= fun _ => lookBehind S) _ _ _
    refine wpAny_bind (wpAny_update hS' ?_)
    have hS₂ : (h'.update S (Obj.mapBytearray (·.push n.toNat.toUInt8))).get? S = some { cls := .type "bytearray", data := .bytearray (byteArr (ds ++ [n])) } := by
      have e : byteArr (ds ++ [n]) = (byteArr ds).push n.toNat.toUInt8 := by simp [byteArr]
      rw [e]
      exact Heap.get?_update_self (Obj.mapBytearray (·.push n.toNat.toUInt8)) hS' rfl
    refine wpAny_lookBehind hS₂ ?_ ?_
    · show (if (byteArr (ds ++ [n])).size > sizeLine then some "bytearray:memory" else none) = none
      rw [if_neg]
      rw [byteArr_size]
      simp only [List.length_append, List.length_cons, List.length_nil] at hz ⊢
      omega
    · refine wpAny_pure ⟨plainId_quiet F.bm_plain_loop _, ih (ds ++ [n]) (us ++ [.int n t]) _ { s with heap := h'.update S (Obj.mapBytearray (·.push n.toNat.toUInt8)) } (by rw [he]; simp) (hu.append (.cons _ _ .nil)) hv (fun x hx => hr x (.tail _ hx)) (by simp only [List.length_append, List.length_cons, List.length_nil] at hz ⊢; omega) ?_ ?_ hS₂ fun h3 t' k' hk3 => ?_⟩
      · exact (hl.extBut hs.extBut hlI).extBut (Heap.SameBut.update ..).extBut hlS
      · rw [List.length_append]
        exact hit'.extBut (Heap.SameBut.update ..).extBut hIS
      · have := hR h3 t' k' fun b o hbI hbS e => hk3 b o hbI hbS ((Heap.get?_update_other _ _ (Ne.symm hbS)).trans (hs.extBut b o hbI e))
        rw [List.append_assoc]
        exact this
theorem bt_new {l : Addr} {vs : List Value} {ns : List Int} {Q : Value → Shared → Prop} (hh : A.handled = none) (hl : s.heap.IsTuple l vs.toArray) (hi : IntsAre vs ns) (hr : ∀ n ∈ ns, 0 ≤ n ∧ n < 256) (hz : ns.length ≤ sizeLine)
    (hQ : ∀ h' t k, (∀ b o, s.heap.get? b = some o → h'.get? b = some o) → Q (.bytes (byteArr ns) t) { s with heap := h', toks := k }) :
    codeAny (model prog w) A (.call (.builtin "bytes.__new__") ⟨[.type "bytes", .ref l], []⟩) (wants Q E) s := by
  refine codeAny_of_tree ?_
  show wpAny _ A.in1 (do checkBuiltinCall "bytes.__new__" ⟨[.type "bytes", .ref l], []⟩; again (.builtin "bytes.__new__" ⟨[.type "bytes", .ref l], []⟩)) _ _ s
  refine wpAny_bind (wpAny_of_eq (F.bm_newCall _) (wpAny_pure ⟨plainId_quiet F.bm_plain _, codeAny_builtin F.bm_entry ?_⟩))
  rw [Around.under_plainId F.bm_plain _]
  have hT : s.TypeIs (.ref l) "tuple" := hl.typeIs
  obtain ⟨ol, hol, hoc, nl, hod⟩ := id hl
  unfold Builtin.«bytes.__new__»
  refine wpAny_bind (wpAny_of_eq (a := true) rfl ?_)
  refine bm_if_false rfl ?_
  refine wpAny_bind (wpAny_of_eq F.bm_sub ?_)
  refine bm_if_false rfl ?_
  refine wpAny_bind (wpAny_of_eq (F.bm_bind _) ?_)
  refine wpAny_bind (wpAny_of_eq (a := ()) rfl ?_)
  refine wpAny_bind (wpAny_of_eq (a := ()) rfl ?_)
  refine bm_if_false rfl ?_
  refine wpAny_bind (wpAny_specialOf hT tup_no_bytes ?_)
  refine wpAny_bind (wpAny_bind ?_)
  show wpAny _ _ (load l >>= _) _ _ _
  refine wpAny_bind (wpAny_load hol ?_)
  rw [hod]
  refine wpAny_pure (wpAny_pure ?_)
  refine bm_if_false rfl ?_
  refine wpAny_bind (wpAny_specialOf hT tup_no_index ?_)
  refine bm_if_true rfl ?_
  first
    | show wpAny _ _ (Builtin.Bytes.buffer? "bytes.__new__" (.ref l) true >>= _) _ _ _
    | (refine wpAny_bind ?_; show wpAny _ _ (Builtin.Bytes.buffer? "bytes.__new__" (.ref l) true >>= _) _ _ _)
  refine wpAny_bind ?_
  unfold Builtin.Bytes.buffer?
  refine wpAny_bind (wpAny_specialOf hT tup_no_buffer ?_)
  refine wpAny_bind (wpAny_specialOf hT tup_no_buffer ?_)
  refine wpAny_pure ?_
  refine wpAny_bind (wpAny_tryCatch (wpAny_pyIter_tuple hl ?_))
  generalize hg : s.heap.push { cls := .type "tuple_iterator", data := .fields #[.ref l, .int 0 0] } = g
  have hl₁ : g.IsTuple l vs.toArray := hg ▸ hl.push _
  have hT₁ : ({ s with heap := g } : Shared).TypeIs (.ref l) "tuple" := Heap.IsTuple.typeIs (s := { s with heap := g }) hl₁
  have hgI : g.get? s.heap.objs.size = some { cls := .type "tuple_iterator", data := .fields #[.ref l, .int 0 0] } := hg ▸ Heap.get?_push_size _ rfl
  have hgk : ∀ b o, s.heap.get? b = some o → g.get? b = some o := fun b o e => hg ▸ Heap.get?_push_of_some _ e
  have hsz : g.objs.size = s.heap.objs.size + 1 := hg ▸ Heap.size_push _ _
  refine wpAny_bind (wpAny_holding ?_)
  unfold Builtin.Bytes.lengthHint
  refine wpAny_bind (wpAny_specialOf hT₁ F.slot_tuple_len.lookup ?_)
  dsimp only
  rw [tup_split]
  dsimp only
  refine wpAny_bind (wpAny_isInstance hT₁ F.sub_tuple_tuple ?_)
  refine bm_if_false rfl ?_
  refine bm_if_true (by decide +kernel) ?_
  refine wpAny_pure ?_
  refine wpAny_bind ?_
  unfold Builtin.Bytes.newBytearray
  refine wpAny_newObj_type ?_ (Nat.zero_le _)
  have hI : (g.push { cls := .type "bytearray", data := .bytearray #[] }).IsTupleIter s.heap.objs.size l 0 := ⟨_, Heap.get?_push_of_some _ hgI, rfl, rfl⟩
  have hlt : l < s.heap.objs.size := Heap.lt_size hol
  have main := bt_loop (prog := prog) (w := w) (A := A) (R := wants Q E) (l := l) (I := s.heap.objs.size) (S := g.objs.size) (items := vs) hh (by rw [hsz]; exact Nat.ne_of_lt (Nat.lt_succ_self _)) (Nat.ne_of_lt hlt) (by rw [hsz]; exact Nat.ne_of_lt (Nat.lt_succ_of_lt hlt))
    ns [] [] vs { s with heap := g.push { cls := .type "bytearray", data := .bytearray #[] } } rfl .nil hi hr (by simpa using hz) (hl₁.push _) hI (Heap.get?_push_size _ rfl)
    fun h' t k hk => hQ h' t k fun b o e => hk b o (Nat.ne_of_lt (Heap.lt_size e)) (by rw [hsz]; exact Nat.ne_of_lt (Nat.lt_succ_of_lt (Heap.lt_size e))) (Heap.get?_push_of_some _ (hgk b o e))
  first
    | exact wpAny_pure ⟨plainId_quiet F.bm_plain_loop _, main⟩
    | exact wpAny_pure (wpAny_pure ⟨plainId_quiet F.bm_plain_loop _, main⟩)
theorem bytes_tup {l : Addr} {vs : List Value} {ns : List Int} {Q : Value → Shared → Prop} (hl : IsTup s.heap l vs.toArray) (hi : IntsAre vs ns) (hr : ∀ n ∈ ns, 0 ≤ n ∧ n < 256) (hz : ns.length ≤ sizeLine) (hh : A.handled = none)
    (hQ : ∀ h' t k, (∀ b o, s.heap.get? b = some o → h'.get? b = some o) → Q (.bytes (byteArr ns) t) { s with heap := h', toks := k }) : wpAny (model prog w) A (call (.type "bytes") [.ref l]) Q E s := by
  refine callType_codes (Q₁ := fun obj s₁ => s₁.TypeIs obj "bytes" ∧ Q obj s₁) F.bm_called (F.bm_typeCall _) F.entry_object_init
    (bt_new hh hl hi hr hz fun h' t k hk => ⟨PySem.W.typeIs_bytes _ _ _, hQ h' t k hk⟩) fun obj s₁ h₁ => ?_
  exact ⟨h₁.1, F.args_object_init_2 obj _, object_init_meets F.bm_called.init.lookup F.bm_called.made (by decide) prog w A.in1 _ s₁ ⟨h₁.1, rfl, h₁.2⟩⟩
end
theorem slot_brepr : Slot "bytes" "__repr__" "bytes.__repr__" :=
  .of (owner := "bytes") (n := "__repr__") (by rw [typeLookup_type, builtinLookup_eq_fast]; kernel_rfl) (by decide +kernel) (by decide +kernel) (by decide +kernel)
    (by first | exact .inl (by decide +kernel) | exact .inr (by decide +kernel)) (by rw [isSubtype_type]; kernel_rfl)
theorem entry_brepr : entryFor table "bytes.__repr__" = some Builtin.«bytes.__repr__» := entryFor_of_tree (by kernel_rfl)
theorem args_brepr (a : Value) : argsOk "bytes.__repr__" ⟨[a], []⟩ := by
  unfold argsOk; rw [signature?_of (id := "bytes.__repr__") (n := ['_', '_', 'r', 'p', 'e', 'r', '_', '_']) (o := ['s', 'e', 't', 'y', 'b']) (by kernel_rfl) FB.owner_bytes]; kernel_rfl
theorem literal_one : ∀ x : UInt8, (Builtin.Bytes.literal #[x] false).length ≤ 7 := by
  have h : ∀ n : Fin 256, (Builtin.Bytes.literal #[UInt8.ofNat n.val] false).length ≤ 7 := by decide +kernel
  intro x
  have := h ⟨x.toNat, x.toNat_lt⟩
  simpa using this
theorem gives_brepr (x : UInt8) (t : Tok) : Gives (Builtin.«bytes.__repr__» ⟨[.bytes #[x] t], []⟩) (.str (Builtin.Bytes.literal #[x] false)) := by
  refine .of_wp fun M A E s Q hq => ?_
  unfold Builtin.«bytes.__repr__»
  refine wpAny_bind (wpAny_of_eq (a := (Value.bytes #[x] t, [])) rfl ?_)
  refine wpAny_bind (wpAny_of_eq (a := #[x]) rfl ?_)
  refine wpAny_bind ?_
  unfold Builtin.Bytes.literalAsked
  refine bm_if_false (by
    have e : Builtin.Bytes.tooLong (4 * (#[x] : Array UInt8).size + 3 + 0) = false := by
      show Builtin.Bytes.tooLong 7 = false
      decide +kernel
    rw [e]; rfl) ?_
  refine wpAny_pure ?_
  exact wpAny_bind (wpAny_mkStr (wpAny_pure ⟨_, rfl, hq.2⟩) hq.1)
theorem ints_of_items : ∀ (vs : List Value) (ns : List Int), vs.length = ns.length → (∀ (j : Nat) (v : Value), vs[j]? = some v → ∃ n u, ns[j]? = some n ∧ v = .int n u) → IntsAre vs ns
  | [], [], _, _ => .nil
  | [], _ :: _, h, _ => by simp at h
  | _ :: _, [], h, _ => by simp at h
  | v :: vs, n :: ns, h, k => by
    obtain ⟨n', u, e, rfl⟩ := k 0 v rfl
    have e' : n = n' := by simpa using e
    subst e'
    exact .cons _ _ (ints_of_items vs ns (by simpa using h) fun j w hw => k (j + 1) w (by simpa using hw))
section
variable {prog : Program} {w : World} {A : Around} {E : Value → Shared → Prop} {s : Shared}
theorem repr_byte {x : UInt8} {t : Tok} {Q : Value → Shared → Prop} (h : ∀ y : Str, y.length ≤ 7 → Q (.str y s.toks) { s with toks := s.toks + 1 }) : wpAny (model prog w) A (call (.builtin "repr") [.bytes #[x] t]) Q E s :=
  call_repr_gives (typeIs_bytes s _ t) slot_brepr entry_brepr (args_brepr _) (gives_brepr x t) (h _ (literal_one x)) (hx := Nat.le_trans (literal_one x) (by decide))

theorem extend_bytes {R : Result → Shared → Prop} (hh : A.handled = none) (b : Array UInt8) (t : Tok) (S : Addr) (res : Value) (c₀ : Nat) (hS : s.heap.get? S = some { cls := .type "list", data := .seq #[] c₀ })
    (hR : ∀ h' tk acc' c', (∀ a o, a ≠ S → s.heap.get? a = some o → h'.get? a = some o) → h'.get? S = some { cls := .type "list", dict := none, data := .seq acc' c', slots := #[] } →
      ItemsOf (fun i v => ∃ c u, b[i]? = some c ∧ v = .int (c.toNat : Int) u) acc' b.size → R (.ok (.ret res)) { s with heap := h', toks := tk }) (hn : b.size ≤ sizeLine) :
    wpAny (model prog w) A.in1 (Builtin.List.listExtendWith (.ref S) (.bytes b t) res)
      (fun fin s' => match fin with | .done f => R (.ok f) s' | .again c' => c'.quiet = true ∧ codeAny (model prog w) A c' R s') (fun e s' => R (.error e) s') s := by
  have hSI : S ≠ s.heap.objs.size := Nat.ne_of_lt (Heap.lt_size hS)
  have hSf : S ∉ [s.heap.objs.size] := fun hm => hSI (List.mem_singleton.mp hm)
  unfold Builtin.List.listExtendWith
  refine wpAny_bind (wpAny_typeOf (T := "bytes") (v := .bytes b t) rfl ?_)
  have h1 : Builtin.List.listSameRef (.ref S) (.bytes b t) = false := rfl
  have h2 : (Value.type "bytes" == Value.type "list") = false := by decide
  have h3 : (Value.type "bytes" == Value.type "tuple") = false := by decide
  simp only [h1, h2, h3, Bool.or_false, Bool.false_eq_true, if_false]
  refine wpAny_bind (KBw.pyIter_bytes ?_)
  refine wpAny_bind (wpAny_holding ?_)
  unfold Builtin.List.listLengthHint
  refine wpAny_bind (wpAny_specialOf (T := "bytes") (v := .bytes b t) rfl FB.slot_bytes_len.lookup ?_)
  wp_delta
  refine wpAny_bind (wpAny_isInstance (T := "bytes") (v := .bytes b t) (b := true) rfl (by rw [isSubtype_type]; kernel_rfl) ?_)
  show wpAny _ _ (typeOf (Value.bytes b t) >>= _) _ _ _
  refine wpAny_bind (wpAny_typeOf (T := "bytes") (v := .bytes b t) rfl ?_)
  refine wpAny_pure ?_
  rw [if_neg (by decide)]
  refine wpAny_pure ⟨plainId_quiet F.plain_extend_loop _, codeAny_extend_loopS (KBw.walks (A := A.in1) hh s.heap.objs.size b t).toS hn _ hSf _ b.size 0 _ _ _ rfl (Nat.zero_le _) ⟨_, Heap.get?_push_size _ rfl, rfl, rfl⟩ (Heap.get?_push_of_some _ hS) (ItemsOf.nil _) fun s' acc' c' hm hS' hacc => ?_⟩
  rw [Moved.eq_with hm]
  refine hR s'.heap s'.toks acc' c' (fun a ob hb e => hm.heap a ob (fun hmem => ?_) (Heap.get?_push_of_some _ e)) hS' hacc
  rcases List.mem_cons.mp hmem with e' | hmem
  · exact hb e'
  · exact absurd (Heap.lt_size e) (by rw [List.mem_singleton.mp hmem]; exact Nat.lt_irrefl _)
theorem list_bytes {Q : Value → Shared → Prop} (hh : A.handled = none) (b : Array UInt8) (t : Tok)
    (hQ : ∀ h' tk vs c', (∀ a o, s.heap.get? a = some o → h'.get? a = some o) →
      h'.get? s.heap.objs.size = some (listOf vs.toArray c') → IntsAre vs (KBw.bInts b) → Q (.ref s.heap.objs.size) { s with heap := h', toks := tk }) (hn : b.size ≤ sizeLine) :
    wpAny (model prog w) A (call (.type "list") [.bytes b t]) Q E s := by
  refine callType_codes (Q₁ := fun obj s₁ => obj = .ref s.heap.objs.size ∧ s₁ = { s with heap := s.heap.push { cls := .type "list", data := .seq #[] } }) F.called_list (F.typeCall_list_1 _) F.entry_list_init
    (code_list_new _ ⟨rfl, rfl⟩) fun obj s₁ h₁ => ?_
  obtain ⟨rfl, rfl⟩ := h₁
  have hS : (s.heap.push { cls := .type "list", data := .seq #[] }).get? s.heap.objs.size = some { cls := .type "list", data := .seq #[] } := Heap.get?_push_size _ rfl
  refine ⟨⟨_, hS, rfl⟩, F.args_list_init_2 _ _, ?_⟩
  generalize hg : s.heap.push { cls := .type "list", data := .seq #[] } = g at hS ⊢
  have hgk : ∀ a o, s.heap.get? a = some o → g.get? a = some o := fun a o e => hg ▸ Heap.get?_push_of_some _ e
  generalize hSz : s.heap.objs.size = S at hS ⊢
  show wpAny _ _ (do let old ← Builtin.List.listItems (.ref S); Builtin.List.listUpdate (.ref S) (fun _ => #[]); letGo old.toList.reverse; Builtin.List.listExtendWith (.ref S) (.bytes b t) .none) _ _ _
  refine wpAny_bind ?_
  unfold Builtin.List.listItems
  refine wpAny_bind (wpAny_seqItems hS rfl (wpAny_pure ?_))
  show wpAny _ _ (updateSeq S (fun _ => #[]) >>= fun _ => letGo (#[] : Array Value).toList.reverse >>= fun _ => Builtin.List.listExtendWith (.ref S) (.bytes b t) .none) _ _ _
  refine wpAny_bind (wpAny_updateSeq hS rfl ?_)
  have hS₂ := Heap.get?_update_self (Obj.mapSeq (fun _ => (#[] : Array Value))) hS rfl
  refine wpAny_bind (wpAny_letGo ?_)
  refine extend_bytes (A := A.in1) (s := { s with heap := g.update S (Obj.mapSeq (fun _ => (#[] : Array Value))) }) hh b t S .none _ hS₂ (fun h' tk acc' c' hk hS' hacc => ?_) hn
  refine ⟨rfl, ?_⟩
  subst hSz
  refine hQ h' tk acc'.toList c' (fun a o e => hk a o (Nat.ne_of_lt (Heap.lt_size e)) ((Heap.get?_update_other _ _ (Ne.symm (Nat.ne_of_lt (Heap.lt_size e)))).trans (hgk a o e))) (by simpa using hS') ?_
  refine ints_of_items _ _ (by rw [KBw.ints_length]; simpa using hacc.1) fun j v hv => ?_
  obtain ⟨c, u, hc, rfl⟩ := hacc.2 j v (by simpa using hv)
  exact ⟨_, u, KBw.ints_get hc, rfl⟩
end
/-- a list of bytes' numbers -/
def Byt (ns : List Int) : Prop := ∀ n ∈ ns, 0 ≤ n ∧ n < 256
theorem Byt.head {n : Int} {r : List Int} (h : Byt (n :: r)) : 0 ≤ n ∧ n < 256 := h n (.head _)
theorem Byt.tail {n : Int} {r : List Int} (h : Byt (n :: r)) : Byt r := fun x hx => h x (.tail _ hx)
theorem byteArr_toList (ns : List Int) : (byteArr ns).toList = ns.map fun n => n.toNat.toUInt8 := by simp [byteArr]
theorem u8_lt {a b : Int} (h : 0 ≤ a ∧ a < 256) (k : 0 ≤ b ∧ b < 256) : (a.toNat.toUInt8 < b.toNat.toUInt8) ↔ a < b := by
  rw [UInt8.lt_iff_toNat_lt]
  have e1 := byte_back h.1 h.2
  have e2 := byte_back k.1 k.2
  omega
theorem u8_eq {a b : Int} (h : 0 ≤ a ∧ a < 256) (k : 0 ≤ b ∧ b < 256) : (a.toNat.toUInt8 = b.toNat.toUInt8) ↔ a = b := by
  constructor
  · intro e
    have e1 := byte_back h.1 h.2
    have e2 := byte_back k.1 k.2
    rw [e] at e1
    omega
  · intro e; rw [e]
theorem map_u8_inj : ∀ {xs ys : List Int}, Byt xs → Byt ys → ((xs.map fun n => n.toNat.toUInt8) = ys.map fun n => n.toNat.toUInt8) → xs = ys
  | [], [], _, _, _ => rfl
  | [], _ :: _, _, _, h => by simp at h
  | _ :: _, [], _, _, h => by simp at h
  | a :: r, b :: q, h, k, e => by
    simp only [List.map_cons, List.cons.injEq] at e
    rw [(u8_eq h.head k.head).mp e.1, map_u8_inj h.tail k.tail e.2]
theorem beq_bytes {ns ms : List Int} (h : Byt ns) (k : Byt ms) : ((byteArr ns).toList == (byteArr ms).toList) = decide (ns = ms) := by
  rw [byteArr_toList, byteArr_toList]
  by_cases e : ns = ms
  · subst e; simp
  · rw [decide_eq_false e, beq_eq_false_iff_ne]
    exact fun q => e (map_u8_inj h k q)
/-- one sign at most as great as the text's start -/
theorem order_lo {a : Int} (ha : 0 ≤ a ∧ a < 256) : ∀ {ns : List Int}, Byt ns → (Builtin.Bytes.order [a.toNat.toUInt8] (byteArr ns).toList != .gt) = (match ns with | [] => false | n :: _ => decide (a ≤ n))
  | [], _ => by rw [byteArr_toList]; rfl
  | n :: r, h => by
    rw [byteArr_toList]
    simp only [List.map_cons, Builtin.Bytes.order]
    by_cases h1 : a < n
    · rw [if_pos ((u8_lt ha h.head).mpr h1)]
      have e : a ≤ n := by omega
      rw [decide_eq_true e]; rfl
    · rw [if_neg (fun q => h1 ((u8_lt ha h.head).mp q))]
      by_cases h2 : n < a
      · rw [if_pos (by exact (u8_lt h.head ha).mpr h2)]
        have : ¬ a ≤ n := by omega
        simp [this]
      · rw [if_neg (fun q => h2 ((u8_lt h.head ha).mp q))]
        have e : a ≤ n := by omega
        cases r <;> simp [Builtin.Bytes.order, e]
/-- the text at most as great as one sign -/
theorem order_hi {a : Int} (ha : 0 ≤ a ∧ a < 256) : ∀ {ns : List Int}, Byt ns → (Builtin.Bytes.order (byteArr ns).toList [a.toNat.toUInt8] != .gt) = (match ns with | [] => true | n :: r => decide (n < a ∨ (n = a ∧ r = [])))
  | [], _ => by rw [byteArr_toList]; rfl
  | n :: r, h => by
    rw [byteArr_toList]
    simp only [List.map_cons, Builtin.Bytes.order]
    by_cases h1 : n < a
    · rw [if_pos ((u8_lt h.head ha).mpr h1)]; simp [h1]
    · rw [if_neg (fun q => h1 ((u8_lt h.head ha).mp q))]
      by_cases h2 : a < n
      · rw [if_pos (by exact (u8_lt ha h.head).mpr h2)]
        have : ¬ n = a := by omega
        simp [this, h1]
      · rw [if_neg (fun q => h2 ((u8_lt ha h.head).mp q))]
        have e : n = a := by omega
        cases r <;> simp [Builtin.Bytes.order, e]
def isBT (ns : List Int) : Bool := decide (ns = [] ∨ ns = [32] ∨ ns = [9] ∨ ns = [32, 9])
theorem extract_all (b : Array UInt8) : b.extract 0 b.size = b := by simp
theorem find_bt : ∀ {ns : List Int}, Byt ns → (Builtin.Bytes.find? #[32, 9] (byteArr ns) 0 2).isSome = isBT ns
  | [], _ => by decide
  | [a], h => by
    have q : ∀ n : Fin 256, (Builtin.Bytes.find? #[32, 9] #[UInt8.ofNat n.val] 0 2).isSome = decide (n.val = 32 ∨ n.val = 9) := by decide +kernel
    obtain ⟨h0, h1⟩ := h.head
    have := q ⟨a.toNat, by omega⟩
    have e : byteArr [a] = #[UInt8.ofNat a.toNat] := rfl
    rw [e, this]
    unfold isBT
    rw [decide_eq_decide]
    simp only [List.cons_ne_nil, List.cons.injEq, and_true, List.nil_eq, reduceCtorEq, and_false, or_false, false_or]
    omega
  | [a, b], h => by
    obtain ⟨h0, h1⟩ := h.head
    obtain ⟨h2, h3⟩ := h.tail.head
    have e : Builtin.Bytes.find? #[32, 9] (byteArr [a, b]) 0 2 = if (byteArr [32, 9] == byteArr [a, b]) then some 0 else none := by
      unfold Builtin.Bytes.find?
      have e2 : (byteArr [a, b]).size = 2 := rfl
      rw [e2]
      show List.find? _ [0] = _
      have e3 : (#[32, 9] : Array UInt8).extract 0 (0 + 2) = byteArr [32, 9] := by decide
      simp only [List.find?, e3]
      cases (byteArr [32, 9] == byteArr [a, b]) <;> rfl
    rw [e]
    unfold isBT
    by_cases q : a = 32 ∧ b = 9
    · obtain ⟨rfl, rfl⟩ := q; decide
    · have : (byteArr [32, 9] == byteArr [a, b]) = false := by
        rw [beq_eq_false_iff_ne]
        intro z
        have z' : (byteArr [32, 9]).toList = (byteArr [a, b]).toList := by rw [z]
        rw [byteArr_toList, byteArr_toList] at z'
        have := map_u8_inj (xs := [32, 9]) (by intro n hn; simp at hn; omega) h z'
        simp at this
        omega
      rw [this]
      simp
      omega
  | a :: b :: c :: r, _ => by
    have e : (2 + 1 - (0 + (byteArr (a :: b :: c :: r)).size)) = 0 := by rw [byteArr_size]; simp only [List.length_cons]; omega
    unfold Builtin.Bytes.find? isBT
    rw [e]
    simp
/-- what the third way says: = or outside blank to tilde -/
def flagB : List Int → Bool
  | [] => false
  | n :: r => decide (n :: r = [61] ∨ n < 32 ∨ 126 < n ∨ (n = 126 ∧ r ≠ []))
def FlagR (ns : List Int) (r : Value) : Prop :=
  (isBT ns = true ∧ ∃ t, r = .int 2 t) ∨ (isBT ns = false ∧ ns = [95] ∧ ∃ t, r = .int 3 t) ∨ (isBT ns = false ∧ ns ≠ [95] ∧ r = .bool (flagB ns))
def figB : List Int → Bool
  | [] => false
  | n :: r => decide ((48 ≤ n ∧ n < 57) ∨ (n = 57 ∧ r = []) ∨ (97 ≤ n ∧ n < 102) ∨ (n = 102 ∧ r = []) ∨ (65 ≤ n ∧ n < 70) ∨ (n = 70 ∧ r = []))
section
variable {prog : Program} {w : World} {A : Around} {E : Value → Shared → Prop} {s : Shared} {h₀ : Heap} {L : Addr} {m : Str → Option Value} {news : List (Addr × Obj)}
theorem in_bytesF {b c : Array UInt8} {t u : Tok} {Q : Value → Shared → Prop} (hh : A.handled = none) (F : Fr h₀ L s.heap m) (N : News h₀ L s.heap news) (h : ∀ h' tk, Fr h₀ L h' m → News h₀ L h' news → Q (.bool (Builtin.Bytes.find? c b 0 c.size).isSome) { s with heap := h', toks := tk }) :
    wpAny (model prog w) A (compareOp .In (.bytes b t) (.bytes c u)) Q E s :=
  in_bytes hh fun h' tk hk => h h' tk (F.keeps hk) (N.grown hk)
theorem ord_b1 {t : Tok} {n : Int} {Q : Value → Shared → Prop} (h0 : 0 ≤ n) (h1 : n < 256) (h : Q (.int n s.toks) { s with toks := s.toks + 1 }) : wpAny (model prog w) A (call (.builtin "ord") [.bytes (byteArr [n]) t]) Q E s := by
  refine ord_bytes (x := n.toNat.toUInt8) ?_
  rw [byte_back h0 h1]; exact h
theorem len_b1 {t : Tok} {ns : List Int} {Q : Value → Shared → Prop} (h0 : ns.length ≤ 126) (h : Q (.int (ns.length : Nat) (s.toks + 1)) { s with toks := s.toks + 1 + 1 }) : wpAny (model prog w) A (call (.builtin "len") [.bytes (byteArr ns) t]) Q E s := by
  refine len_bytes (by rw [byteArr_size]; omega) ?_
  rw [byteArr_size]; exact h
theorem bytes_tupF {l : Addr} {vs : List Value} {ns : List Int} {c : Nat} {Q : Value → Shared → Prop}
    (F : Fr h₀ L s.heap m) (N : News h₀ L s.heap news) (hl : (l, ({ cls := .type "tuple", data := .seq vs.toArray c } : Obj)) ∈ news) (hi : IntsAre vs ns) (hr : ∀ n ∈ ns, 0 ≤ n ∧ n < 256) (hz : ns.length ≤ 64) (hh : A.handled = none)
    (h : ∀ h' t k, Fr h₀ L h' m → News h₀ L h' news → Q (.bytes (byteArr ns) t) { s with heap := h', toks := k }) : wpAny (model prog w) A (call (.type "bytes") [.ref l]) Q E s :=
  bytes_tup (News.isTup N hl) hi hr (Nat.le_trans hz (by decide)) hh fun h' t k hk => h h' t k (F.keeps hk) (N.grown hk)
theorem in2 {a b : Int} (h1 : 0 ≤ a ∧ a < 256) (h2 : 0 ≤ b ∧ b < 256) : ∀ n ∈ [a, b], 0 ≤ n ∧ n < 256 := by
  intro n hn
  rcases List.mem_cons.mp hn with rfl | hn
  · exact h1
  · rw [List.mem_singleton.mp hn]; exact h2
theorem in1 {a : Int} (h1 : 0 ≤ a ∧ a < 256) : ∀ n ∈ [a], 0 ≤ n ∧ n < 256 := by
  intro n hn
  rw [List.mem_singleton.mp hn]; exact h1
theorem inU (x : UInt8) : (0 : Int) ≤ ((x.toNat : Nat) : Int) ∧ ((x.toNat : Nat) : Int) < 256 := ⟨by omega, by have := x.toNat_lt; omega⟩
end
theorem bytes_lstF {prog : Program} {w : World} {A : Around} {E : Value → Shared → Prop} {s : Shared} {h₀ : Heap} {L : Addr} {m : Str → Option Value} {news : List (Addr × Obj)} {l : Addr} {vs : List Value} {ns : List Int} {Q : Value → Shared → Prop}
    (F : Fr h₀ L s.heap m) (N : News h₀ L s.heap news) (hl : s.heap.IsList l vs.toArray) (hi : IntsAre vs ns) (hr : ∀ n ∈ ns, 0 ≤ n ∧ n < 256) (hz : ns.length ≤ 64) (hh : A.handled = none)
    (h : ∀ h' t k, Fr h₀ L h' m → News h₀ L h' news → Q (.bytes (byteArr ns) t) { s with heap := h', toks := k }) : wpAny (model prog w) A (call (.type "bytes") [.ref l]) Q E s :=
  call_bytes_ints hl hi hr (by rw [hi.length]; exact Nat.le_trans hz (by decide)) hh fun h' t k hk => h h' t k (F.keeps hk) (N.grown hk)
theorem fill_one : PySem.Challenge.rw_sh0081_01 = PySem.Challenge.rw_sh0081_01 ∧ hd81.heap_39 = hd81.heap_39 := by
  k_fill
  exact ⟨rfl, rfl⟩
local macro_rules | `(tactic| ktr_call $_x $bs) => `(tactic| (refine wpAny_call ?_; k_dflt (refine' code_pure (binds := $bs) ?k1 ?k2 ?k3 ?k5 ?kA ?kF ?kK ?k6 ?k7 ?k8 ?k9 ?kB ?_ ?c2 ?c3 ?c4 ?c5; (case kA => exact rfl); (case kF => exact rfl); (case kK => assumption); (case k1 => k_asm); (case k2 => k_asm); (case k3 => k_asm); (case k5 => k_asm); (case k6 => k_is); (case k7 => k_is); (case k8 => k_room); (case k9 => exact BindsTo.of_eq rfl); (case c5 => decide); (case kB => exact locs rfl); (case c2 => exact rfl); (case c3 => exact rfl); (case c4 => exact rfl); k_whole; intro L' h' FG' F' N' B' X' T'; (try dsimp only); (try k_fold))))
local macro_rules | `(tactic| walk_at "compareOp LtE bytes bytes") => `(tactic| refine le_bytes ?_)
local macro_rules | `(tactic| walk_at "compareOp In bytes bytes") => `(tactic| (k_here; k_dflt (refine' in_bytesF ?hh ?F ?N ?_; (case hh => exact rfl); (case F => k_asm); (case N => k_asm)); intro h' tk' F' N'; (try k_sweep)))
local macro_rules | `(tactic| walk_at "call builtin:ord") => `(tactic| ((with_reducible show wpAny _ _ (call (Value.builtin "ord") [Value.bytes (byteArr _) _]) _ _ _); k_dflt (refine ord_b1 (by omega) (by omega) ?_)))
local macro_rules | `(tactic| walk_at "call builtin:len") => `(tactic| ((with_reducible show wpAny _ _ (call (Value.builtin "len") [Value.bytes (byteArr _) _]) _ _ _); k_dflt (refine len_b1 (by first | decide | omega) ?_)))
local macro_rules | `(tactic| walk_at "call builtin:list.append") => `(tactic| (k_here; (show wpAny _ _ (call (Value.builtin "list.append") [Value.ref _, _]) _ _ _); k_dflt (refine' append_K ?k1 ?k2 ?k3 ?_ ?z; (case k1 => k_asm); (case k2 => k_asm); (case k3 => k_upd); (case z => size_fits); k_whole); intro h' F' N'; (try k_sweep)))
section
variable {w : World} {mean : ExcName → Option Value} {mg mb : Str → Option Value} {cn : Str} {cs : Scope} {a : Addr} {ccd : Value} {base h₀ hp : Heap} {L : Addr} {m : Str → Option Value} {gn : Array GenState} {dr : Drawn} {tk : Nat} {os : OsState} {Q E : Value → Shared → Prop}
theorem fl1 {ns : List Int} {t : Tok} (hr : Byt ns) (h1 : (Builtin.Bytes.find? #[32, 9] (byteArr ns) 0 (Array.size #[32, 9])).isSome = true) : FlagR ns (.int 2 t) := .inl ⟨(find_bt hr).symm.trans h1, _, rfl⟩
theorem fl2 {ns : List Int} {t : Tok} (hr : Byt ns) (h1 : (Builtin.Bytes.find? #[32, 9] (byteArr ns) 0 (Array.size #[32, 9])).isSome = false) (h2 : ((byteArr ns).toList == Array.toList #[95]) = true) : FlagR ns (.int 3 t) :=
  .inr (.inl ⟨(find_bt hr).symm.trans h1, of_decide_eq_true ((beq_bytes hr (ms := [95]) (in1 (by decide))).symm.trans h2), _, rfl⟩)
theorem fl0 {ns : List Int} {b : Bool} (hr : Byt ns) (h1 : (Builtin.Bytes.find? #[32, 9] (byteArr ns) 0 (Array.size #[32, 9])).isSome = false) (h2 : ((byteArr ns).toList == Array.toList #[95]) = false) (h : ns ≠ [] → b = flagB ns) : FlagR ns (.bool b) := by
  have e1 := (find_bt hr).symm.trans h1
  refine .inr (.inr ⟨e1, of_decide_eq_false ((beq_bytes hr (ms := [95]) (in1 (by decide))).symm.trans h2), ?_⟩)
  rw [h]
  intro e
  subst e
  exact absurd e1 (by decide)
theorem fl3 {ns : List Int} (hr : Byt ns) (h1 : (Builtin.Bytes.find? #[32, 9] (byteArr ns) 0 (Array.size #[32, 9])).isSome = false) (h2 : ((byteArr ns).toList == Array.toList #[95]) = false) (h3 : ((byteArr ns).toList == Array.toList #[61]) = true) : FlagR ns (.bool ((byteArr ns).toList == [61])) := by
  refine fl0 hr h1 h2 fun _ => ?_
  have e : ns = [61] := of_decide_eq_true ((beq_bytes hr (ms := [61]) (in1 (by decide))).symm.trans h3)
  subst e
  decide
theorem fl4 {ns : List Int} (hr : Byt ns) (h1 : (Builtin.Bytes.find? #[32, 9] (byteArr ns) 0 (Array.size #[32, 9])).isSome = false) (h2 : ((byteArr ns).toList == Array.toList #[95]) = false) (h3 : ((byteArr ns).toList == Array.toList #[61]) = false)
    (h4 : (Builtin.Bytes.order (Array.toList #[32]) (byteArr ns).toList != Ordering.gt) = true) : FlagR ns (.bool !Builtin.Bytes.order (byteArr ns).toList [126] != Ordering.gt) := by
  refine fl0 hr h1 h2 fun hne => ?_
  have e3 : ns ≠ [61] := of_decide_eq_false ((beq_bytes hr (ms := [61]) (in1 (by decide))).symm.trans h3)
  have e4 := (order_lo (a := 32) (by decide) hr).symm.trans h4
  have e5 := order_hi (a := 126) (by decide) hr
  refine (congrArg not e5).trans ?_
  match ns, hne, e3, e4 with
  | n :: r, _, e3, e4 =>
    have e4 : 32 ≤ n := of_decide_eq_true e4
    show (!decide (n < 126 ∨ (n = 126 ∧ r = []))) = decide (n :: r = [61] ∨ n < 32 ∨ 126 < n ∨ (n = 126 ∧ r ≠ []))
    rw [← decide_not, decide_eq_decide]
    constructor
    · intro q
      by_cases z : n = 126
      · exact .inr (.inr (.inr ⟨z, fun y => q (.inr ⟨z, y⟩)⟩))
      · exact .inr (.inr (.inl (by omega)))
    · rintro (q | q | q | ⟨q, y⟩) (z | ⟨z, x⟩)
      · exact e3 q
      · exact e3 q
      all_goals first | omega | exact y x
theorem fl5 {ns : List Int} (hr : Byt ns) (h1 : (Builtin.Bytes.find? #[32, 9] (byteArr ns) 0 (Array.size #[32, 9])).isSome = false) (h2 : ((byteArr ns).toList == Array.toList #[95]) = false)
    (h4 : (Builtin.Bytes.order (Array.toList #[32]) (byteArr ns).toList != Ordering.gt) = false) : FlagR ns (.bool !Builtin.Bytes.order [32] (byteArr ns).toList != Ordering.gt) := by
  refine fl0 hr h1 h2 fun hne => ?_
  have e4 := (order_lo (a := 32) (by decide) hr).symm.trans h4
  refine (congrArg not h4).trans ?_
  match ns, hne, e4 with
  | n :: r, _, e4 =>
    have e4 : ¬ 32 ≤ n := of_decide_eq_false e4
    exact (decide_eq_true (.inr (.inl (by omega)))).symm
theorem needs_c {ns : List Int} {tb t2 t3 : Tok}
    (B : Below callerA base [] h₀) (F : Fr h₀ L hp m) (X : (hd81.heap_39 w.params).In h₀) (T : TopX mean mg mb h₀) (hk : cs.kind = .function) (hr : Byt ns)
    (hret : ∀ r h' tk', FlagR ns r → Fr h₀ L h' m → Kept hp L h' → Q r { heap := h', gens := gn, drawn := dr, toks := tk', os := os }) :
    wpAny (model PR w) (callerA.deeper (envOf cn cs L a ccd)) (call (.ref 21) [.bytes (byteArr ns) tb, .int 2 t2, .int 3 t3]) Q E { heap := hp, gens := gn, drawn := dr, toks := tk, os := os } := by
  ktr_call "" [(Str.ofString "c", Value.bytes (byteArr ns) tb), (Str.ofString "quotetabs", Value.int 2 t2), (Str.ofString "header", Value.int 3 t3)]
  w_on
  k_steps
  all_goals (refine hret _ _ _ ?_ (by assumption) (by assumption))
  all_goals first | exact fl1 hr (by assumption) | exact fl2 hr (by assumption) (by assumption) | exact fl3 hr (by assumption) (by assumption) (by assumption) | exact fl4 hr (by assumption) (by assumption) (by assumption) (by assumption) | exact fl5 hr (by assumption) (by assumption) (by assumption)
end
section
variable {w : World} {mean : ExcName → Option Value} {mg mb : Str → Option Value} {cn : Str} {cs : Scope} {a : Addr} {ccd : Value} {base h₀ hp : Heap} {L : Addr} {m : Str → Option Value} {gn : Array GenState} {dr : Drawn} {tk : Nat} {os : OsState} {Q E : Value → Shared → Prop}
theorem qbool {Q : Value → Shared → Prop} {b c : Bool} {s : Shared} (e : b = c) (h : Q (.bool c) s) : Q (.bool b) s := e ▸ h
theorem fig_bytes {ns : List Int} (hr : Byt ns) : figB ns =
    (((Builtin.Bytes.order #[48].toList (byteArr ns).toList != Ordering.gt) && (Builtin.Bytes.order (byteArr ns).toList #[57].toList != Ordering.gt)) ||
     ((Builtin.Bytes.order #[97].toList (byteArr ns).toList != Ordering.gt) && (Builtin.Bytes.order (byteArr ns).toList #[102].toList != Ordering.gt)) ||
     ((Builtin.Bytes.order #[65].toList (byteArr ns).toList != Ordering.gt) && (Builtin.Bytes.order (byteArr ns).toList #[70].toList != Ordering.gt))) := by
  have a1 : (Builtin.Bytes.order #[48].toList (byteArr ns).toList != Ordering.gt) = _ := order_lo (a := 48) (by decide) hr
  have a2 : (Builtin.Bytes.order #[97].toList (byteArr ns).toList != Ordering.gt) = _ := order_lo (a := 97) (by decide) hr
  have a3 : (Builtin.Bytes.order #[65].toList (byteArr ns).toList != Ordering.gt) = _ := order_lo (a := 65) (by decide) hr
  have b1 : (Builtin.Bytes.order (byteArr ns).toList #[57].toList != Ordering.gt) = _ := order_hi (a := 57) (by decide) hr
  have b2 : (Builtin.Bytes.order (byteArr ns).toList #[102].toList != Ordering.gt) = _ := order_hi (a := 102) (by decide) hr
  have b3 : (Builtin.Bytes.order (byteArr ns).toList #[70].toList != Ordering.gt) = _ := order_hi (a := 70) (by decide) hr
  rw [a1, a2, a3, b1, b2, b3]
  cases ns with
  | nil => rfl
  | cons n r =>
    simp only [figB]
    rw [← Bool.decide_and, ← Bool.decide_and, ← Bool.decide_and, ← Bool.decide_or, ← Bool.decide_or, decide_eq_decide]
    constructor
    · rintro (q | q | q | q | q | q) <;> (first | (obtain ⟨q1, q2⟩ := q) | skip) <;> first
        | exact .inl (.inl ⟨by omega, .inl (by omega)⟩) | exact .inl (.inl ⟨by omega, .inr ⟨q1, q2⟩⟩)
        | exact .inl (.inr ⟨by omega, .inl (by omega)⟩) | exact .inl (.inr ⟨by omega, .inr ⟨q1, q2⟩⟩)
        | exact .inr ⟨by omega, .inl (by omega)⟩ | exact .inr ⟨by omega, .inr ⟨q1, q2⟩⟩
    · rintro ((⟨q, p | p⟩ | ⟨q, p | p⟩) | ⟨q, p | p⟩)
      · exact .inl ⟨q, p⟩
      · exact .inr (.inl p)
      · exact .inr (.inr (.inl ⟨q, p⟩))
      · exact .inr (.inr (.inr (.inl p)))
      · exact .inr (.inr (.inr (.inr (.inl ⟨q, p⟩))))
      · exact .inr (.inr (.inr (.inr (.inr p))))
theorem ishex_c {ns : List Int} {tb : Tok}
    (B : Below callerA base [] h₀) (F : Fr h₀ L hp m) (X : (hd81.heap_39 w.params).In h₀) (T : TopX mean mg mb h₀) (hk : cs.kind = .function) (hr : Byt ns)
    (hret : ∀ h' tk', Fr h₀ L h' m → Kept hp L h' → Q (.bool (figB ns)) { heap := h', gens := gn, drawn := dr, toks := tk', os := os }) :
    wpAny (model PR w) (callerA.deeper (envOf cn cs L a ccd)) (call (.ref 35) [.bytes (byteArr ns) tb]) Q E { heap := hp, gens := gn, drawn := dr, toks := tk, os := os } := by
  ktr_call "" [(Str.ofString "c", Value.bytes (byteArr ns) tb)]
  w_on
  k_steps
  all_goals (
    refine qbool ?_ (hret _ _ (by assumption) (by assumption))
    clear hret
    rw [fig_bytes hr]
    simp only [*, Bool.true_and, Bool.false_and, Bool.and_false, Bool.and_true, Bool.false_or, Bool.or_false, Bool.true_or, Bool.or_true])
end
section
variable {w : World} {mean : ExcName → Option Value} {mg mb : Str → Option Value} {cn : Str} {cs : Scope} {a : Addr} {ccd : Value} {base h₀ hp : Heap} {L : Addr} {m : Str → Option Value} {gn : Array GenState} {dr : Drawn} {tk : Nat} {os : OsState} {Q E : Value → Shared → Prop}
local macro_rules | `(tactic| ktr_rel) => `(tactic| (unfold isBT; refine decide_eq_false ?_; rintro (q | q | q | q) <;> first | contradiction | (cases q; done)))
theorem flag_c {l : Addr} {vs : List Value} {ns : List Int}
    (B : Below callerA base [] h₀) (F : Fr h₀ L hp m) (X : (hd81.heap_39 w.params).In h₀) (T : TopX mean mg mb h₀) (hk : cs.kind = .function)
    (hl : hp.IsList l vs.toArray) (hi : IntsAre vs ns) (hr : Byt ns) (hlen : ns.length ≤ 63)
    (hret : ∀ r h' tk', FlagR ns r → Fr h₀ L h' m → Kept hp L h' → Q r { heap := h', gens := gn, drawn := dr, toks := tk', os := os }) :
    wpAny (model PR w) (callerA.deeper (envOf cn cs L a ccd)) (call (.ref 63) [.ref l]) Q E { heap := hp, gens := gn, drawn := dr, toks := tk, os := os } := by
  cases ns with
  | nil =>
    ktr_call "" [(Str.ofString "piece", Value.ref l)]
    w_on
    k_steps
    all_goals (refine hret _ _ _ ?_ (by assumption) (by assumption))
    all_goals exact .inl ⟨rfl, _, rfl⟩
  | cons n ns =>
    have hn := hr.head
    have hlen' : ns.length ≤ 62 := by simp only [List.length_cons] at hlen; omega
    ktr_call "" [(Str.ofString "piece", Value.ref l)]
    w_on
    k_steps
    all_goals (refine hret _ _ _ ?_ (by assumption) (by assumption))
    all_goals first
      | (rename decide (_ = []) = true => z; exact absurd (of_decide_eq_true z) (List.cons_ne_nil _ _))
      | exact .inl ⟨by unfold isBT; exact decide_eq_true (by first | exact .inr (.inl (by assumption)) | exact .inr (.inr (.inl (by assumption))) | exact .inr (.inr (.inr (by assumption)))), _, rfl⟩
      | exact .inr (.inl ⟨by ktr_rel, by assumption, _, rfl⟩)
      | (refine .inr (.inr ⟨by ktr_rel, by assumption, congrArg Value.bool ?_⟩)
         unfold flagB
         first
           | (have z : n :: ns = [61] := by assumption
              rw [decide_eq_decide]
              exact ⟨fun _ => .inl z, fun _ => z⟩)
           | (simp only [List.getD_cons_zero, Int.toNat_zero] at *
              rw [decide_eq_decide]
              constructor
              · intro z; first | exact .inr (.inl z) | exact .inr (.inr (.inl z)) | exact .inr (.inr (.inr ⟨by assumption, by intro q; rw [q] at z; simp at z⟩))
              · rintro (z | z | z | ⟨z, y⟩)
                · contradiction
                · first | assumption | omega
                · first | assumption | omega
                · first | omega | (cases ns with | nil => exact absurd rfl y | cons _ _ => simp only [List.length_cons]; omega))
           | (simp only [List.getD_cons_zero, Int.toNat_zero] at *
              have z : n ≠ 126 := by assumption
              rw [beq_eq_false_iff_ne.mpr z]
              refine (decide_eq_false ?_).symm
              rintro (z | z | z | ⟨z, y⟩) <;> contradiction))
end
section
variable {w : World} {mean : ExcName → Option Value} {mg mb : Str → Option Value} {cn : Str} {cs : Scope} {a : Addr} {ccd : Value} {base h₀ hp : Heap} {L : Addr} {m : Str → Option Value} {gn : Array GenState} {dr : Drawn} {tk : Nat} {os : OsState} {Q E : Value → Shared → Prop}
theorem figure_c {l : Addr} {vs : List Value} {ns : List Int}
    (B : Below callerA base [] h₀) (F : Fr h₀ L hp m) (X : (hd81.heap_39 w.params).In h₀) (T : TopX mean mg mb h₀) (hk : cs.kind = .function)
    (hl : hp.IsList l vs.toArray) (hi : IntsAre vs ns) (hr : Byt ns) (hlen : ns.length ≤ 63)
    (hret : ∀ h' tk', Fr h₀ L h' m → Kept hp L h' → Q (.bool (figB ns)) { heap := h', gens := gn, drawn := dr, toks := tk', os := os }) :
    wpAny (model PR w) (callerA.deeper (envOf cn cs L a ccd)) (call (.ref 70) [.ref l]) Q E { heap := hp, gens := gn, drawn := dr, toks := tk, os := os } := by
  cases ns with
  | nil =>
    ktr_call "" [(Str.ofString "piece", Value.ref l)]
    w_on
    k_steps
    all_goals exact hret _ _ (by assumption) (by assumption)
  | cons n ns =>
    have hn := hr.head
    ktr_call "" [(Str.ofString "piece", Value.ref l)]
    w_on
    k_steps
    all_goals (
      refine qbool ?_ (hret _ _ (by assumption) (by assumption))
      clear hret
      simp only [List.getD_cons_zero, Int.toNat_zero] at *
      unfold figB
      first
        | (rename decide (_ = []) = true => z; exact absurd (of_decide_eq_true z) (List.cons_ne_nil _ _))
        | (simp only [List.cons.injEq] at *
           by_cases y : ns = []
           all_goals (
             (simp only [y, and_true, and_false, not_false_eq_true, or_false, false_or] at *) <;> first
               | (rw [decide_eq_decide] <;> omega)
               | exact (decide_eq_true (by omega)).symm)))
end
section
variable {w : World} {mean : ExcName → Option Value} {mg mb : Str → Option Value} {cn : Str} {cs : Scope} {a : Addr} {ccd : Value} {base h₀ hp : Heap} {L : Addr} {m : Str → Option Value} {gn : Array GenState} {dr : Drawn} {tk : Nat} {os : OsState} {Q E : Value → Shared → Prop}
/-- the number that figures are to a base -/
def numOf (b : Int) (ds : List Int) : Int := ds.foldl (fun a d => a * b + d) 0
theorem num_from (b : Int) : ∀ (ds : List Int) (a : Int), ds.foldl (fun a d => a * b + d) a = a * b ^ ds.length + numOf b ds
  | [], a => by simp [numOf]
  | d :: r, a => by
    have h1 := num_from b r (a * b + d)
    have h2 := num_from b r (0 * b + d)
    simp only [List.foldl_cons, numOf, List.length_cons] at h1 h2 ⊢
    rw [h1, h2, Int.zero_mul, Int.zero_add, Int.pow_succ, Int.add_mul, ← Int.mul_assoc, Int.mul_right_comm a b, Int.add_assoc]
theorem num_cons (b d : Int) (r : List Int) : numOf b (d :: r) = d * b ^ r.length + numOf b r := by
  have := num_from b r (0 * b + d)
  simpa [numOf] using this
theorem num_snoc (b d : Int) (r : List Int) : numOf b (r ++ [d]) = numOf b r * b + d := by
  simp [numOf, List.foldl_append]
theorem num_range (b : Int) (ns : List Int) : ∀ i : Nat, i ≤ ns.length →
    ((rangeInts 0 1 i).foldl (fun (σ : Int × Unit) k => (σ.fst + ns.getD (-1 - k + (ns.length : Int)).toNat 0 * b ^ k.toNat, ())) (0, ())).fst = numOf b (ns.drop (ns.length - i))
  | 0, _ => by simp [rangeInts, numOf]
  | i + 1, h => by
    have e : rangeInts 0 1 (i + 1) = rangeInts 0 1 i ++ [(i : Int)] := by simp [rangeInts, List.range_succ]
    rw [e, List.foldl_append]
    simp only [List.foldl_cons, List.foldl_nil]
    rw [num_range b ns i (by omega)]
    have j : (-1 - (i : Int) + (ns.length : Int)).toNat = ns.length - (i + 1) := by omega
    have hlt : ns.length - (i + 1) < ns.length := by omega
    rw [j, List.drop_eq_getElem_cons hlt, num_cons, show ns.length - (i + 1) + 1 = ns.length - i by omega, List.length_drop]
    rw [show ns.length - (ns.length - i) = i by omega, List.getD_eq_getElem?_getD, List.getElem?_eq_getElem hlt, Int.toNat_natCast, Int.add_comm]
    rfl
theorem num_fold (b : Int) (ns : List Int) : ((rangeInts 0 1 ((ns.length : Int) - 0).toNat).foldl (fun (σ : Int × Unit) k => (σ.fst + ns.getD (-1 - k + (ns.length : Int)).toNat 0 * b ^ k.toNat, ())) (0, ())).fst = numOf b ns := by
  have := num_range b ns ns.length (Nat.le_refl _)
  simpa using this
theorem qint {Q : Value → Shared → Prop} {b c : Int} {t : Tok} {s : Shared} (e : b = c) (h : Q (.int c t) s) : Q (.int b t) s := e ▸ h
theorem bits_small {n : Int} (h : 0 ≤ n ∧ n < 256) : Builtin.Int.intBits n ≤ 64 := by
  have q : ∀ k : Fin 256, Builtin.Int.intBits (k.val : Int) ≤ 64 := by decide +kernel
  have := q ⟨n.toNat, by omega⟩
  rwa [show ((n.toNat : Nat) : Int) = n by omega] at this
theorem byt_getD {ns : List Int} (hr : Byt ns) (j : Nat) : 0 ≤ ns.getD j 0 ∧ ns.getD j 0 < 256 := by
  rw [List.getD_eq_getElem?_getD]
  cases e : ns[j]? with
  | none => decide
  | some x => exact hr x (List.mem_of_getElem? e)
theorem mul_dig {ns : List Int} {j : Nat} {x : Int} (hr : Byt ns) : IntMulOk (ns.getD j 0) x := .of_left (bits_small (byt_getD hr j))
local macro_rules | `(tactic| walk_at "binaryOp Mult int int") => `(tactic| ((with_reducible show wpAny _ _ (binaryOp Operator.Mult (Value.int (List.getD _ _ _) _) (Value.int _ _)) _ _ _); with_reducible refine mul_int ?_ (hm := mul_dig (by assumption))))
theorem number_c {l : Addr} {vs : List Value} {ns : List Int} {bb : Int} {tb : Tok}
    (B : Below callerA base [] h₀) (F : Fr h₀ L hp m) (X : (hd81.heap_39 w.params).In h₀) (T : TopX mean mg mb h₀) (hk : cs.kind = .function)
    (hl : hp.IsList l vs.toArray) (hi : IntsAre vs ns) (hr : Byt ns) (hlen : ns.length ≤ 63) (hb : bb = 16 ∨ bb = 256)
    (hret : ∀ t h' tk', Fr h₀ L h' m → Kept hp L h' → Q (.int (numOf bb ns) t) { heap := h', gens := gn, drawn := dr, toks := tk', os := os }) :
    wpAny (model PR w) (callerA.deeper (envOf cn cs L a ccd)) (call (.ref 56) [.ref l, .int bb tb]) Q E { heap := hp, gens := gn, drawn := dr, toks := tk, os := os } := by
  ktr_call "" [(Str.ofString "digits", Value.ref l), (Str.ofString "base", Value.int bb tb)]
  w_on
  k_steps
  all_goals exact qint (num_fold bb ns) (hret _ _ _ (by assumption) (by assumption))
end
section
variable {w : World} {mean : ExcName → Option Value} {mg mb : Str → Option Value} {cn : Str} {cs : Scope} {a : Addr} {ccd : Value} {base h₀ hp : Heap} {L : Addr} {m : Str → Option Value} {gn : Array GenState} {dr : Drawn} {tk : Nat} {os : OsState} {Q E : Value → Shared → Prop}
abbrev figs : List Int := [48, 49, 50, 51, 52, 53, 54, 55, 56, 57, 65, 66, 67, 68, 69, 70]
def up (n : Int) : Int := if 97 ≤ n ∧ n ≤ 102 then n - 32 else n
def worthsOf : List Int → Option (List Int)
  | [] => some []
  | n :: r => if up n ∈ figs then (worthsOf r).map fun ws => ((figs.idxOf (up n) : Nat) : Int) :: ws else none
theorem worths_snoc {n : Int} (h : up n ∈ figs) : ∀ {pre ws : List Int}, worthsOf pre = some ws → worthsOf (pre ++ [n]) = some (ws ++ [((figs.idxOf (up n) : Nat) : Int)])
  | [], ws, e => by
    cases Option.some.inj e
    simp only [List.nil_append, worthsOf, if_pos h, Option.map_some]
  | p :: pre, ws, e => by
    simp only [worthsOf] at e
    split at e
    · rename_i hp
      cases q : worthsOf pre with
      | none => rw [q] at e; cases e
      | some us =>
        rw [q] at e
        cases Option.some.inj e
        simp only [List.cons_append, worthsOf, if_pos hp, worths_snoc h q, Option.map_some]
    · cases e
theorem worths_none {n : Int} (h : up n ∉ figs) : ∀ {pre post : List Int}, worthsOf (pre ++ n :: post) = none
  | [], post => by simp only [List.nil_append, worthsOf, if_neg h]
  | p :: pre, post => by
    simp only [List.cons_append, worthsOf, worths_none h, Option.map_none, ite_self]
theorem any_mem {k : Int} (h : (figs.any fun x => x == k) = true) : k ∈ figs := by
  obtain ⟨x, hx, e⟩ := List.any_eq_true.mp h
  rw [← beq_iff_eq.mp e]; exact hx
theorem any_not {k : Int} (h : (figs.any fun x => x == k) = false) : k ∉ figs := fun q => by
  have : (figs.any fun x => x == k) = true := List.any_eq_true.mpr ⟨k, q, beq_iff_eq.mpr rfl⟩
  rw [h] at this; cases this
theorem up_in {n : Int} (h1 : 97 ≤ n) (h2 : n ≤ 102) : up n = n - 32 := if_pos ⟨h1, h2⟩
theorem up_lo {n : Int} (h1 : ¬ 97 ≤ n) : up n = n := if_neg fun q => h1 q.1
theorem up_hi {n : Int} (h1 : ¬ n ≤ 102) : up n = n := if_neg fun q => h1 q.2
abbrev WS (pre ws : List Int) : Prop := worthsOf pre = some ws ∧ ws.length = pre.length
theorem ws_step {n : Int} {pre ws : List Int} (k : WS pre ws) (h : up n ∈ figs) : WS (pre ++ [n]) (ws ++ [((figs.idxOf (up n) : Nat) : Int)]) :=
  ⟨worths_snoc h k.1, by rw [List.length_append, List.length_append, k.2]; rfl⟩
theorem ws_in {n : Int} {pre ws : List Int} (k : WS pre ws) (h1 : 97 ≤ n) (h2 : n ≤ 102) (h : (figs.any fun x => x == n - 32) = true) : WS (pre ++ [n]) (ws ++ [((figs.idxOf (n - 32) : Nat) : Int)]) := by
  rw [← up_in h1 h2]; exact ws_step k (by rw [up_in h1 h2]; exact any_mem h)
theorem ws_lo {n : Int} {pre ws : List Int} (k : WS pre ws) (h1 : ¬ 97 ≤ n) (h : (figs.any fun x => x == n) = true) : WS (pre ++ [n]) (ws ++ [((figs.idxOf n : Nat) : Int)]) := by
  have e := up_lo h1
  have := ws_step k (by rw [e]; exact any_mem h); rwa [e] at this
theorem ws_hi {n : Int} {pre ws : List Int} (k : WS pre ws) (h1 : ¬ n ≤ 102) (h : (figs.any fun x => x == n) = true) : WS (pre ++ [n]) (ws ++ [((figs.idxOf n : Nat) : Int)]) := by
  have e := up_hi h1
  have := ws_step k (by rw [e]; exact any_mem h); rwa [e] at this
theorem wn_in {n : Int} {ns pre post : List Int} (e : ns = pre ++ n :: post) (h1 : 97 ≤ n) (h2 : n ≤ 102) (h : (figs.any fun x => x == n - 32) = false) : worthsOf ns = none := by
  rw [e]; exact worths_none (by rw [up_in h1 h2]; exact any_not h)
theorem wn_lo {n : Int} {ns pre post : List Int} (e : ns = pre ++ n :: post) (h1 : ¬ 97 ≤ n) (h : (figs.any fun x => x == n) = false) : worthsOf ns = none := by
  rw [e]; exact worths_none (by rw [up_lo h1]; exact any_not h)
theorem wn_hi {n : Int} {ns pre post : List Int} (e : ns = pre ++ n :: post) (h1 : ¬ n ≤ 102) (h : (figs.any fun x => x == n) = false) : worthsOf ns = none := by
  rw [e]; exact worths_none (by rw [up_hi h1]; exact any_not h)
/-- the worths handed back: none, or a list of ints -/
def WorthsR (ns : List Int) (r : Value) (h' : Heap) (h₀ : Heap) (L : Addr) : Prop :=
  (worthsOf ns = none ∧ r = .none) ∨ ∃ l vs c ws, worthsOf ns = some ws ∧ r = .ref l ∧ IntsAre vs ws ∧ News h₀ L h' [(l, listOf vs.toArray c)]
theorem worths_size {ns ws : List Int} (h : worthsOf ns = some ws) : Byt ws ∧ ws.length = ns.length := by
  induction ns generalizing ws with
  | nil => cases Option.some.inj h; exact ⟨fun _ q => (nomatch q), rfl⟩
  | cons n r ih =>
    simp only [worthsOf] at h
    split at h
    · rename_i hp
      cases q : worthsOf r with
      | none => rw [q] at h; cases h
      | some us =>
        rw [q] at h
        cases Option.some.inj h
        obtain ⟨h1, h2⟩ := ih q
        refine ⟨fun x hx => ?_, by simp [h2]⟩
        rcases List.mem_cons.mp hx with rfl | hx
        · have := List.idxOf_lt_length_of_mem hp
          simp only [List.length_cons, List.length_nil] at this
          omega
        · exact h1 x hx
    · cases h
theorem news_head {h₀ h : Heap} {L : Addr} {p : Addr × Obj} {r : List (Addr × Obj)} (N : News h₀ L h (p :: r)) : News h₀ L h [p] := fun q hq => by
  rw [List.mem_singleton.mp hq]; exact N p (.head _)
local macro_rules | `(tactic| walk_at "call builtin:list.index") => `(tactic| (k_here; (show wpAny _ _ (call (Value.builtin "list.index") [Value.ref _, Value.int _ _]) _ _ _); k_dflt (refine' index_list_ints (ns := figs) ?k1 ?k2 ?k3 ?k4 ?_; (case k1 => is_list); (case k2 => repeat constructor); (case k3 => decide +kernel); (case k4 => exact any_mem (by assumption)); k_whole)))
theorem worths_c {l : Addr} {vs : List Value} {ns : List Int}
    (B : Below callerA base [] h₀) (F : Fr h₀ L hp m) (X : (hd81.heap_39 w.params).In h₀) (T : TopX mean mg mb h₀) (hk : cs.kind = .function)
    (hl : hp.IsList l vs.toArray) (hi : IntsAre vs ns) (hr : Byt ns) (hlen : ns.length ≤ 63)
    (hret : ∀ r h' tk', WorthsR ns r h' h₀ L → Fr h₀ L h' m → Kept hp L h' → Q r { heap := h', gens := gn, drawn := dr, toks := tk', os := os }) :
    wpAny (model PR w) (callerA.deeper (envOf cn cs L a ccd)) (call (.ref 77) [.ref l]) Q E { heap := hp, gens := gn, drawn := dr, toks := tk, os := os } := by
  ktr_call "" [(Str.ofString "piece", Value.ref l)]
  w_on
  (k_with "pyIter ref" => k_state (fun pre ws => worthsOf pre = some ws ∧ ws.length = pre.length) "worths")
  (k_with "state" => first | exact (⟨rfl, rfl⟩ : WS [] []) | exact ws_in ⟨by assumption, by assumption⟩ (by assumption) (by assumption) (by assumption) | exact ws_lo ⟨by assumption, by assumption⟩ (by assumption) (by assumption) | exact ws_hi ⟨by assumption, by assumption⟩ (by assumption) (by assumption))
  k_steps
  all_goals first
    | exact hret _ _ _ (.inl ⟨wn_in (by assumption) (by assumption) (by assumption) (by assumption), rfl⟩) (by assumption) (by assumption)
    | exact hret _ _ _ (.inl ⟨wn_lo (by assumption) (by assumption) (by assumption), rfl⟩) (by assumption) (by assumption)
    | exact hret _ _ _ (.inl ⟨wn_hi (by assumption) (by assumption) (by assumption), rfl⟩) (by assumption) (by assumption)
    | exact hret _ _ _ (.inr ⟨_, _, _, _, by assumption, rfl, by assumption, news_head (by assumption)⟩) (by assumption) (by assumption)
end
def unhexOf (ns : List Int) : Option Int := (worthsOf ns).map (numOf 16)
theorem uh_start : unhexOf [] = some 0 := rfl
theorem uh_step {pre : List Int} {bits n : Int} (h : unhexOf pre = some bits) (k : up n ∈ figs) : unhexOf (pre ++ [n]) = some (bits * 16 + ((figs.idxOf (up n) : Nat) : Int)) := by
  unfold unhexOf at h ⊢
  cases q : worthsOf pre with
  | none => rw [q] at h; cases h
  | some ws =>
    rw [q] at h
    cases Option.some.inj h
    rw [worths_snoc k q, Option.map_some, num_snoc]
theorem up_hi' {n : Int} (h : n < 97) : up n = n := if_neg fun q => by omega
theorem idx_dig {n : Int} (h1 : 48 ≤ n) (h2 : n ≤ 57) : n ∈ figs ∧ ((figs.idxOf n : Nat) : Int) = n - 48 := by
  have q : ∀ k : Fin 10, (48 + (k.val : Int)) ∈ figs ∧ ((figs.idxOf (48 + (k.val : Int)) : Nat) : Int) = k.val := by decide +kernel
  have := q ⟨(n - 48).toNat, by omega⟩
  have e : 48 + (((n - 48).toNat : Nat) : Int) = n := by omega
  simp only [e] at this
  exact ⟨this.1, by rw [this.2]; omega⟩
theorem idx_cap {n : Int} (h1 : 65 ≤ n) (h2 : n ≤ 70) : n ∈ figs ∧ ((figs.idxOf n : Nat) : Int) = n - 55 := by
  have q : ∀ k : Fin 6, (65 + (k.val : Int)) ∈ figs ∧ ((figs.idxOf (65 + (k.val : Int)) : Nat) : Int) = 10 + k.val := by decide +kernel
  have := q ⟨(n - 65).toNat, by omega⟩
  have e : 65 + (((n - 65).toNat : Nat) : Int) = n := by omega
  simp only [e] at this
  exact ⟨this.1, by rw [this.2]; omega⟩
theorem uh_dig {pre : List Int} {bits n : Int} (h : unhexOf pre = some bits) (h1 : 48 ≤ n) (h2 : n ≤ 57) : unhexOf (pre ++ [n]) = some (bits * 16 + (n - 48)) := by
  have e : up n = n := up_hi' (by omega)
  have := uh_step h (by rw [e]; exact (idx_dig h1 h2).1)
  rwa [e, (idx_dig h1 h2).2] at this
theorem uh_cap {pre : List Int} {bits n : Int} (h : unhexOf pre = some bits) (h1 : 65 ≤ n) (h2 : n ≤ 70) : unhexOf (pre ++ [n]) = some (bits * 16 + (n - 55)) := by
  have e : up n = n := up_hi' (by omega)
  have := uh_step h (by rw [e]; exact (idx_cap h1 h2).1)
  rwa [e, (idx_cap h1 h2).2] at this
theorem uh_low {pre : List Int} {bits n : Int} (h : unhexOf pre = some bits) (h1 : 97 ≤ n) (h2 : n ≤ 102) : unhexOf (pre ++ [n]) = some (bits * 16 + (n - 87)) := by
  have e : up n = n - 32 := up_in h1 h2
  have k := idx_cap (n := n - 32) (by omega) (by omega)
  have := uh_step h (by rw [e]; exact k.1)
  rw [e, k.2] at this
  rw [this]
  congr 2
  omega
theorem uh_none {ns pre post : List Int} {n : Int} (e : ns = pre ++ n :: post) (h1 : ¬ (48 ≤ n ∧ n ≤ 57)) (h2 : ¬ (97 ≤ n ∧ n ≤ 102)) (h3 : ¬ (65 ≤ n ∧ n ≤ 70)) : worthsOf ns = none := by
  rw [e]
  refine worths_none ?_
  have e : up n = n := if_neg h2
  rw [e]
  simp only [figs, List.mem_cons, List.not_mem_nil, or_false]
  omega
theorem le_lo1 {prog : Program} {w : World} {A : Around} {E : Value → Shared → Prop} {s : Shared} {t u : Tok} {n : Int} (a : Int) (ha : 0 ≤ a ∧ a < 256) (hn : 0 ≤ n ∧ n < 256) {Q : Value → Shared → Prop} (h : Q (.bool (decide (a ≤ n))) s) :
    wpAny (model prog w) A (compareOp .LtE (.bytes #[a.toNat.toUInt8] t) (.bytes (byteArr [n]) u)) Q E s := by
  refine le_bytes ?_
  have e := order_lo ha (ns := [n]) (in1 hn)
  rw [show (Builtin.Bytes.order (#[a.toNat.toUInt8] : Array UInt8).toList (byteArr [n]).toList != .gt) = decide (a ≤ n) from e]
  exact h
theorem le_hi1 {prog : Program} {w : World} {A : Around} {E : Value → Shared → Prop} {s : Shared} {t u : Tok} {n : Int} (a : Int) (ha : 0 ≤ a ∧ a < 256) (hn : 0 ≤ n ∧ n < 256) {Q : Value → Shared → Prop} (h : Q (.bool (decide (n ≤ a))) s) :
    wpAny (model prog w) A (compareOp .LtE (.bytes (byteArr [n]) u) (.bytes #[a.toNat.toUInt8] t)) Q E s := by
  refine le_bytes ?_
  have e := order_hi ha (ns := [n]) (in1 hn)
  rw [show (Builtin.Bytes.order (byteArr [n]).toList (#[a.toNat.toUInt8] : Array UInt8).toList != .gt) = decide (n ≤ a) from e.trans (by rw [decide_eq_decide]; simp only [and_true]; omega)]
  exact h
theorem repr_b1 {prog : Program} {w : World} {A : Around} {E : Value → Shared → Prop} {s : Shared} {n : Int} {t : Tok} {Q : Value → Shared → Prop} (h : ∀ y : Str, y.length ≤ 7 → Q (.str y s.toks) { s with toks := s.toks + 1 }) : wpAny (model prog w) A (call (.builtin "repr") [.bytes (byteArr [n]) t]) Q E s := repr_byte h
theorem ord_b65 {prog : Program} {w : World} {A : Around} {E : Value → Shared → Prop} {s : Shared} {t : Tok} {Q : Value → Shared → Prop} (h : Q (.int 65 s.toks) { s with toks := s.toks + 1 }) : wpAny (model prog w) A (call (.builtin "ord") [.bytes #[65] t]) Q E s :=
  ord_bytes (x := 65) h
theorem le48 {prog : Program} {w : World} {A : Around} {E : Value → Shared → Prop} {s : Shared} {t u : Tok} {n : Int} {Q : Value → Shared → Prop} (hn : 0 ≤ n ∧ n < 256) (h : Q (.bool (decide (48 ≤ n))) s) : wpAny (model prog w) A (compareOp .LtE (.bytes #[48] t) (.bytes (byteArr [n]) u)) Q E s := le_lo1 48 (by decide) hn h
theorem le97 {prog : Program} {w : World} {A : Around} {E : Value → Shared → Prop} {s : Shared} {t u : Tok} {n : Int} {Q : Value → Shared → Prop} (hn : 0 ≤ n ∧ n < 256) (h : Q (.bool (decide (97 ≤ n))) s) : wpAny (model prog w) A (compareOp .LtE (.bytes #[97] t) (.bytes (byteArr [n]) u)) Q E s := le_lo1 97 (by decide) hn h
theorem le65 {prog : Program} {w : World} {A : Around} {E : Value → Shared → Prop} {s : Shared} {t u : Tok} {n : Int} {Q : Value → Shared → Prop} (hn : 0 ≤ n ∧ n < 256) (h : Q (.bool (decide (65 ≤ n))) s) : wpAny (model prog w) A (compareOp .LtE (.bytes #[65] t) (.bytes (byteArr [n]) u)) Q E s := le_lo1 65 (by decide) hn h
theorem le57 {prog : Program} {w : World} {A : Around} {E : Value → Shared → Prop} {s : Shared} {t u : Tok} {n : Int} {Q : Value → Shared → Prop} (hn : 0 ≤ n ∧ n < 256) (h : Q (.bool (decide (n ≤ 57))) s) : wpAny (model prog w) A (compareOp .LtE (.bytes (byteArr [n]) u) (.bytes #[57] t)) Q E s := le_hi1 57 (by decide) hn h
theorem le102 {prog : Program} {w : World} {A : Around} {E : Value → Shared → Prop} {s : Shared} {t u : Tok} {n : Int} {Q : Value → Shared → Prop} (hn : 0 ≤ n ∧ n < 256) (h : Q (.bool (decide (n ≤ 102))) s) : wpAny (model prog w) A (compareOp .LtE (.bytes (byteArr [n]) u) (.bytes #[102] t)) Q E s := le_hi1 102 (by decide) hn h
theorem le70 {prog : Program} {w : World} {A : Around} {E : Value → Shared → Prop} {s : Shared} {t u : Tok} {n : Int} {Q : Value → Shared → Prop} (hn : 0 ≤ n ∧ n < 256) (h : Q (.bool (decide (n ≤ 70))) s) : wpAny (model prog w) A (compareOp .LtE (.bytes (byteArr [n]) u) (.bytes #[70] t)) Q E s := le_hi1 70 (by decide) hn h
theorem uh_some {ns : List Int} {b : Int} (h : unhexOf ns = some b) : ∃ ws, worthsOf ns = some ws ∧ b = numOf 16 ws := by
  unfold unhexOf at h
  cases q : worthsOf ns with
  | none => rw [q] at h; cases h
  | some ws => rw [q] at h; exact ⟨ws, rfl, (Option.some.inj h).symm⟩
section
variable {w : World} {mean : ExcName → Option Value} {mg mb : Str → Option Value} {cn : Str} {cs : Scope} {a : Addr} {ccd : Value} {base h₀ hp : Heap} {L : Addr} {m : Str → Option Value} {gn : Array GenState} {dr : Drawn} {tk : Nat} {os : OsState} {Q E : Value → Shared → Prop}
local macro_rules | `(tactic| walk_at "compareOp LtE bytes bytes") => `(tactic| ((with_reducible show wpAny _ _ (compareOp CmpOp.LtE (Value.bytes #[48] _) (Value.bytes (byteArr [_]) _)) _ _ _); with_reducible refine le48 ⟨by omega, by omega⟩ ?_))
local macro_rules | `(tactic| walk_at "compareOp LtE bytes bytes") => `(tactic| ((with_reducible show wpAny _ _ (compareOp CmpOp.LtE (Value.bytes #[97] _) (Value.bytes (byteArr [_]) _)) _ _ _); with_reducible refine le97 ⟨by omega, by omega⟩ ?_))
local macro_rules | `(tactic| walk_at "compareOp LtE bytes bytes") => `(tactic| ((with_reducible show wpAny _ _ (compareOp CmpOp.LtE (Value.bytes #[65] _) (Value.bytes (byteArr [_]) _)) _ _ _); with_reducible refine le65 ⟨by omega, by omega⟩ ?_))
local macro_rules | `(tactic| walk_at "compareOp LtE bytes bytes") => `(tactic| ((with_reducible show wpAny _ _ (compareOp CmpOp.LtE (Value.bytes (byteArr [_]) _) (Value.bytes #[57] _)) _ _ _); with_reducible refine le57 ⟨by omega, by omega⟩ ?_))
local macro_rules | `(tactic| walk_at "compareOp LtE bytes bytes") => `(tactic| ((with_reducible show wpAny _ _ (compareOp CmpOp.LtE (Value.bytes (byteArr [_]) _) (Value.bytes #[102] _)) _ _ _); with_reducible refine le102 ⟨by omega, by omega⟩ ?_))
local macro_rules | `(tactic| walk_at "compareOp LtE bytes bytes") => `(tactic| ((with_reducible show wpAny _ _ (compareOp CmpOp.LtE (Value.bytes (byteArr [_]) _) (Value.bytes #[70] _)) _ _ _); with_reducible refine le70 ⟨by omega, by omega⟩ ?_))
local macro_rules | `(tactic| walk_at "call builtin:repr") => `(tactic| ((show wpAny _ _ (call (Value.builtin "repr") [Value.bytes (byteArr [_]) _]) _ _ _); k_dflt (refine repr_b1 ?_); intro y' hy'))
local macro_rules | `(tactic| walk_at "call builtin:ord") => `(tactic| ((show wpAny _ _ (call (Value.builtin "ord") [Value.bytes #[65] _]) _ _ _); k_dflt (refine ord_b65 ?_)))
local macro_rules | `(tactic| walk_at "call type:bytes") => `(tactic| (k_here; (with_reducible show wpAny _ _ (call (Value.type "bytes") [Value.ref _]) _ _ _); k_dflt (refine' bytes_tupF ?F ?N ?l ?i ?r ?z ?h ?_; (case F => k_asm); (case N => k_asm); (case l => k_mem); (case i => repeat constructor); (case r => exact in1 ⟨by omega, by omega⟩); (case z => (simp only [List.length_cons, List.length_nil]; decide)); (case h => exact rfl); k_whole); intro h' t' k' F' N'; (try k_sweep)))
local macro_rules | `(tactic| k_room) => `(tactic| ktr_room)
theorem unhex_c {dp un : Nat} {gd : Option (List Code)} {outer : List Env} {ns : List Int} {tb : Tok}
    (B : Below { handled := none, depth := dp, frames := some outer, guards := gd, units := un } base outer h₀) (hdp : dp < 900) (hun : un < 100)
    (F : Fr h₀ L hp m) (X : (hd81.heap_39 w.params).In h₀) (T : TopX mean mg mb h₀) (hk : cs.kind = .function)
    (hr : Byt ns) (hlen : ns.length ≤ 126)
    (hret : ∀ ws t h' tk', worthsOf ns = some ws → Fr h₀ L h' m → Kept hp L h' → Q (.int (numOf 16 ws) t) { heap := h', gens := gn, drawn := dr, toks := tk', os := os })
    (hraise : ∀ e news h' tk', worthsOf ns = none → RaisedSN base hp (envOf cn cs L a ccd :: outer) e (.type "AssertionError") news h' → hp.UpToSlots h' → E (.ref e) { heap := h', gens := gn, drawn := dr, toks := tk', os := os }) :
    wpAny (model PR w) (Around.deeper { handled := none, depth := dp, frames := some outer, guards := gd, units := un } (envOf cn cs L a ccd)) (call (.ref 42) [.bytes (byteArr ns) tb]) Q E { heap := hp, gens := gn, drawn := dr, toks := tk, os := os } := by
  ktr_call "" [(Str.ofString "s", Value.bytes (byteArr ns) tb)]
  have kd := ktsDicts_nil (g := hp)
  w_on
  (k_with "pyIter bytes" => k_state (fun pre bits => unhexOf pre = some bits) "bits")
  (k_with "state" => first | exact uh_start | exact uh_dig (by assumption) (by assumption) (by assumption) | exact uh_low (by assumption) (by assumption) (by assumption) | exact uh_cap (by assumption) (by assumption) (by assumption))
  k_steps
  all_goals first
    | exact hraise _ _ _ _ (uh_none (by assumption) (by omega) (by omega) (by omega)) (by assumption) (by assumption)
    | (obtain ⟨ws, e1, e2⟩ := uh_some (by assumption)
       exact qint e2 (hret _ _ _ _ e1 (by assumption) (by assumption)))
end
theorem isi_lb {prog : Program} {w : World} {A : Around} {E : Value → Shared → Prop} {s : Shared} {l : Addr} {items : Array Value} {Q : Value → Shared → Prop} (hl : s.heap.IsList l items) (h : Q (.bool false) { s with toks := s.toks + 1 }) :
    wpAny (model prog w) A (call (.builtin "isinstance") [.ref l, .type "bytes"]) Q E s := by
  obtain ⟨o, ho, hc, _⟩ := hl
  exact PySem.IsiPair.list_bytes ho hc h
section
variable {hp g g₁ h : Heap} {l L L₁ : Addr} {m m₁ : Str → Option Value} {items : Array Value} {fs : List Addr}
theorem lst_up (hl : hp.IsList l items) (F : Fr g L h m) (FG : Fr hp L₁ g m₁) : h.IsList l items := (hl.at fun o e => FG.keep l o e).at fun o e => F.keep l o e
theorem lst_turn0 (hl : hp.IsList l items) (T : KtsTurn fs hp g) (D : KtsDicts fs hp) : g.IsList l items := by
  refine hl.at fun o e => T.other l o e fun hm => ?_
  obtain ⟨o', ho', _, n, hd⟩ := hl
  obtain ⟨o2, es, n2, h2, h3⟩ := D l hm
  rw [h2] at ho'
  cases ho'
  rw [h3] at hd
  cases hd
theorem lst_turn (hl : hp.IsList l items) (F : Fr g L h m) (T : KtsTurn fs hp g) (D : KtsDicts fs hp) : h.IsList l items := (lst_turn0 hl T D).at fun o e => F.keep l o e
theorem lst_turn_up (hl : hp.IsList l items) (F : Fr g₁ L₁ h m₁) (FG : Fr g L g₁ m) (T : KtsTurn fs hp g) (D : KtsDicts fs hp) : h.IsList l items := lst_up (lst_turn0 hl T D) F FG
end
local macro_rules | `(tactic| ktr_call "S" $bs) => `(tactic| (refine wpAny_call ?_; k_dflt (refine' code_pureS (binds := $bs) ?k1 ?k2 ?k3 ?k5 ?kA ?k6 ?k7 ?k8 ?k9 ?kB ?_ ?cK ?c2 ?c3 ?c4 ?c5; (case kA => exact rfl); (case cK => assumption); (case k1 => k_asm); (case k2 => k_asm); (case k3 => k_asm); (case k5 => k_asm); (case k6 => k_is); (case k7 => k_is); (case k8 => k_room); (case k9 => exact BindsTo.of_eq rfl); (case c5 => decide); (case kB => exact locs rfl); (case c2 => exact rfl); (case c3 => exact rfl); (case c4 => exact rfl); k_whole; intro L' h' FG' F' N' B' X' T' D'; (try dsimp only); (try k_fold))))
local macro_rules | `(tactic| walk_at "call type:bytes") => `(tactic| (k_here; (with_reducible show wpAny _ _ (call (Value.type "bytes") [Value.ref _]) _ _ _); k_dflt (refine' bytes_lstF ?F ?N ?l ?i ?r ?z ?h ?_; (case F => k_asm); (case N => k_asm); (case l => is_list); (case i => assumption); (case r => assumption); (case z => omega); (case h => exact rfl); k_whole); intro h' t' k' F' N'; (try k_sweep)))
local macro_rules | `(tactic| walk_at "call builtin:isinstance") => `(tactic| (k_here; (with_reducible show wpAny _ _ (call (Value.builtin "isinstance") [Value.ref _, Value.type "bytes"]) _ _ _); k_dflt (refine' isi_lb ?l ?_; (case l => first | is_list | (refine' lst_up ?a ?b ?c; (case a => assumption); (case b => assumption); (case c => assumption)) | (refine' lst_turn_up ?a ?b ?c ?d ?e; (case a => assumption); (case b => assumption); (case c => assumption); (case d => assumption); (case e => assumption))); k_whole)))
section
variable {w : World} {mean : ExcName → Option Value} {mg mb : Str → Option Value} {cn : Str} {cs : Scope} {a : Addr} {ccd : Value} {base h₀ hp : Heap} {L : Addr} {m : Str → Option Value} {gn : Array GenState} {dr : Drawn} {tk : Nat} {os : OsState} {Q E : Value → Shared → Prop}
theorem uh_l1 {ns ws : List Int} {t : Tok} (e : worthsOf ns = some ws) : IntsAre [.int (numOf 16 ws) t] ((worthsOf ns).elim [] fun ws => [numOf 16 ws]) := by
  rw [e]; exact .cons _ _ .nil
theorem uh_l0 {ns : List Int} (e : worthsOf ns = none) : IntsAre [] ((worthsOf ns).elim [] fun ws => [numOf 16 ws]) := by
  rw [e]; exact .nil
theorem news_kept {h₀ h h' : Heap} {L : Addr} {news : List (Addr × Obj)} (N : News h₀ L h news) (K : Kept h L h') : News h₀ L h' news := fun p hp => ⟨K _ _ (N p hp).2.1 (N p hp).1, (N p hp).2⟩
local macro_rules | `(tactic| walk_at "call ref") => `(tactic| (k_here; (with_reducible show wpAny _ _ (call (Value.ref 42) [Value.bytes (byteArr _) _]) _ _ _); k_dflt (refine' unhex_c ?B ?d ?u ?F ?X ?T ?k ?r ?l ?_ ?_; (case B => k_asm); (case d => decide); (case u => decide); (case F => k_asm); (case X => k_asm); (case T => k_asm); (case k => exact rfl); (case r => assumption); (case l => omega); k_whole); first | (intro ws9 t9 h' tk' e9 F' K'; (have N' := news_kept (by assumption) K'); clear K'; (try k_sweep)) | (intro e9 n9 h' tk' w9 S' U')))
theorem unhexed_c {l : Addr} {vs : List Value} {ns : List Int}
    (B : Below callerA base [] h₀) (F : Fr h₀ L hp m) (X : (hd81.heap_39 w.params).In h₀) (T : TopX mean mg mb h₀) (XB : (hd81.heap_39 w.params).In base) (TB : TopX mean mg mb base) (hk : cs.kind = .function)
    (hl : hp.IsList l vs.toArray) (hi : IntsAre vs ns) (hr : Byt ns) (hlen : ns.length ≤ 63)
    (hret : ∀ l' h' tk' vs' c, IntsAre vs' ((worthsOf ns).elim [] fun ws => [numOf 16 ws]) → News h₀ L h' [(l', listOf vs'.toArray c)] → Fr h₀ L h' m → Kept hp L h' → Q (.ref l') { heap := h', gens := gn, drawn := dr, toks := tk', os := os }) :
    wpAny (model PR w) (callerA.deeper (envOf cn cs L a ccd)) (call (.ref 84) [.ref l]) Q E { heap := hp, gens := gn, drawn := dr, toks := tk, os := os } := by
  ktr_call "S" [(Str.ofString "piece", Value.ref l)]
  w_on
  k_steps
  all_goals first
    | exact hret _ _ _ _ _ (uh_l1 (by assumption)) (news_head (by assumption)) (by assumption) (by assumption)
    | exact hret _ _ _ _ _ (uh_l0 (by assumption)) (news_head (by assumption)) (by assumption) (by assumption)
end
section
variable {w : World} {mean : ExcName → Option Value} {mg mb : Str → Option Value} {cn : Str} {cs : Scope} {a : Addr} {ccd : Value} {base h₀ hp : Heap} {L : Addr} {m : Str → Option Value} {gn : Array GenState} {dr : Drawn} {tk : Nat} {os : OsState} {Q E : Value → Shared → Prop}
theorem refused_c {l : Addr} {vs : List Value} {ns : List Int}
    (B : Below callerA base [] h₀) (F : Fr h₀ L hp m) (X : (hd81.heap_39 w.params).In h₀) (T : TopX mean mg mb h₀) (XB : (hd81.heap_39 w.params).In base) (TB : TopX mean mg mb base) (hk : cs.kind = .function)
    (hl : hp.IsList l vs.toArray) (hi : IntsAre vs ns)
    (hret : ∀ h' tk', Fr h₀ L h' m → Kept hp L h' → Q (.bool true) { heap := h', gens := gn, drawn := dr, toks := tk', os := os }) :
    wpAny (model PR w) (callerA.deeper (envOf cn cs L a ccd)) (call (.ref 98) [.ref l]) Q E { heap := hp, gens := gn, drawn := dr, toks := tk, os := os } := by
  ktr_call "S" [(Str.ofString "piece", Value.ref l)]
  w_on
  k_steps
  all_goals exact qbool (by decide) (hret _ _ (by assumption) (by assumption))
end
theorem fd16 {n : Int} (h0 : 0 ≤ n) (h1 : n < 256) : 0 ≤ n.fdiv 16 ∧ n.fdiv 16 < 16 := by
  have := Int.fdiv_eq_ediv_of_nonneg n (show (0 : Int) ≤ 16 by decide); omega
theorem fm16 {n : Int} (h0 : 0 ≤ n) (h1 : n < 256) : 0 ≤ n.fmod 16 ∧ n.fmod 16 < 16 := by
  have := Int.fmod_eq_emod_of_nonneg n (show (0 : Int) ≤ 16 by decide); omega
def spell (ns : List Int) : List Int := [61, figs.getD ((ns.getD 0 0).fdiv 16).toNat 0, figs.getD ((ns.getD 0 0).fmod 16).toNat 0]
def SpelledR (ns : List Int) (r : Value) (h₀ : Heap) (L : Addr) (h' : Heap) : Prop :=
  (ns.length ≠ 1 ∧ r = .none) ∨ (ns.length = 1 ∧ ∃ l vs c, r = .ref l ∧ IntsAre vs (spell ns) ∧ News h₀ L h' [(l, listOf vs.toArray c)])
theorem figs_byt : Byt figs := by
  intro n hn
  simp only [List.mem_cons, List.not_mem_nil, or_false] at hn
  omega
theorem spell_byt (ns : List Int) : Byt (spell ns) := by
  intro n hn
  rcases List.mem_cons.mp hn with rfl | hn
  · decide
  · exact in2 (byt_getD figs_byt _) (byt_getD figs_byt _) n hn
section
variable {prog : Program} {w : World} {A : Around} {E : Value → Shared → Prop} {s : Shared} {h₀ : Heap} {L : Addr} {m : Str → Option Value} {news : List (Addr × Obj)}
theorem one_of {ns : List Int} (h : ns.length = 1) : ∃ n, ns = [n] := by
  match ns, h with
  | [n], _ => exact ⟨n, rfl⟩
theorem ord_ns {t : Tok} {ns : List Int} {Q : Value → Shared → Prop} (hr : Byt ns) (hl : ns.length = 1) (h : Q (.int (ns.getD 0 0) s.toks) { s with toks := s.toks + 1 }) : wpAny (model prog w) A (call (.builtin "ord") [.bytes (byteArr ns) t]) Q E s := by
  obtain ⟨n, rfl⟩ := one_of hl
  exact ord_b1 hr.head.1 hr.head.2 h
theorem hex_item {value slice : Expr} {k : Int} {t ui : Tok} {Q : Value → Shared → Prop} (hk : 0 ≤ k ∧ k < 16) (h : Q (.int (figs.getD k.toNat 0) s.toks) { s with toks := s.toks + 1 })
    (hs : subscripted slice false (.bytes (#[48, 49, 50, 51, 52, 53, 54, 55, 56, 57, 65, 66, 67, 68, 69, 70] : Array UInt8) t) (.int k ui) = operate [.bytes #[48, 49, 50, 51, 52, 53, 54, 55, 56, 57, 65, 66, 67, 68, 69, 70] t, .int k ui] (getItem (.bytes #[48, 49, 50, 51, 52, 53, 54, 55, 56, 57, 65, 66, 67, 68, 69, 70] t) (.int k ui)))
    (ht : ∀ r, letTemporaryGo value (.bytes #[48, 49, 50, 51, 52, 53, 54, 55, 56, 57, 65, 66, 67, 68, 69, 70] t) r = pure ()) :
    wpAny (model prog w) A (subscriptTail value slice (.bytes #[48, 49, 50, 51, 52, 53, 54, 55, 56, 57, 65, 66, 67, 68, 69, 70] t) (.int k ui)) Q E s := by
  have q : ∀ j : Fin 16, ((((([48, 49, 50, 51, 52, 53, 54, 55, 56, 57, 65, 66, 67, 68, 69, 70] : List UInt8).getD j.val 0).toNat : Nat) : Int)) = figs.getD j.val 0 := by decide +kernel
  have e := q ⟨k.toNat, by omega⟩
  exact bytes_item_K (x := [48, 49, 50, 51, 52, 53, 54, 55, 56, 57, 65, 66, 67, 68, 69, 70]) (by decide) hk.1 (by simp only [List.length_cons, List.length_nil]; omega) e h hs ht
theorem add_esc {t u : Tok} {ns : List Int} {Q : Value → Shared → Prop} (hz : ns.length ≤ 64) (h : ∀ t' k, Q (.bytes (byteArr (61 :: ns)) t') { s with toks := k }) : wpAny (model prog w) A (binaryOp .Add (.bytes #[61] t) (.bytes (byteArr ns) u)) Q E s := by
  refine KBy.add_bytes (by rw [byteArr_size]; show 1 + ns.length ≤ _; omega) fun t' k => ?_
  have e : (#[61] : Array UInt8) ++ byteArr ns = byteArr (61 :: ns) := by
    apply Array.ext'
    rw [Array.toList_append, byteArr_toList, byteArr_toList]
    rfl
  rw [e]; exact h t' k
theorem add_by {t u : Tok} {ms ns : List Int} {Q : Value → Shared → Prop} (hz : ms.length + ns.length ≤ 1000) (h : ∀ t' k, Q (.bytes (byteArr (ms ++ ns)) t') { s with toks := k }) : wpAny (model prog w) A (binaryOp .Add (.bytes (byteArr ms) t) (.bytes (byteArr ns) u)) Q E s := by
  refine KBy.add_bytes (by rw [byteArr_size, byteArr_size]; omega) fun t' k => ?_
  have e : byteArr ms ++ byteArr ns = byteArr (ms ++ ns) := by
    apply Array.ext'
    rw [Array.toList_append, byteArr_toList, byteArr_toList, byteArr_toList, List.map_append]
  rw [e]; exact h t' k
theorem list_bytesF {ns : List Int} {t : Tok} {Q : Value → Shared → Prop} (hh : A.handled = none) (F : Fr h₀ L s.heap m) (N : News h₀ L s.heap news) (hr : Byt ns) (hz : ns.length ≤ 64)
    (h : ∀ l vs c h' tk', Fr h₀ L h' m → News h₀ L h' ((l, listOf vs.toArray c) :: news) → IntsAre vs ns → Q (.ref l) { s with heap := h', toks := tk' }) :
    wpAny (model prog w) A (call (.type "list") [.bytes (byteArr ns) t]) Q E s := by
  refine list_bytes hh (byteArr ns) t (fun h' tk vs c hk hS hi => ?_) (by rw [byteArr_size]; exact Nat.le_trans hz (by decide))
  rw [KBa.ints_make hr] at hi
  have F' := F.keeps hk
  refine h _ _ _ _ _ F' (News.more F' (N.grown hk) hS (fun es n q => by cases q) ?_) hi
  cases q : h₀.get? s.heap.objs.size with
  | none => rfl
  | some o => exact absurd (Heap.lt_size (F.keep _ _ q)) (Nat.lt_irrefl _)
end
section
variable {w : World} {mean : ExcName → Option Value} {mg mb : Str → Option Value} {cn : Str} {cs : Scope} {a : Addr} {ccd : Value} {base h₀ hp : Heap} {L : Addr} {m : Str → Option Value} {gn : Array GenState} {dr : Drawn} {tk : Nat} {os : OsState} {Q E : Value → Shared → Prop}
local macro_rules | `(tactic| walk_at "subscriptTail") => `(tactic| (k_here; (with_reducible show wpAny _ _ (subscriptTail _ _ (Value.ref _) (Value.int (Int.fdiv _ 16) _)) _ _ _); (with_unfolding_all refine' item_anyK (ns := [48, 49, 50, 51, 52, 53, 54, 55, 56, 57, 65, 66, 67, 68, 69, 70]) ?k1 ?k2 ?k3 ?k4 ?k5 ?_ ?k6; (case k1 => is_list); (case k2 => repeat constructor); (case k3 => exact (fd16 (by assumption) (by assumption)).1); (case k4 => exact (fd16 (by assumption) (by assumption)).2); (case k5 => decide); (case k6 => with_unfolding_all rfl); k_whole); intro _))
local macro_rules | `(tactic| walk_at "subscriptTail") => `(tactic| (k_here; (with_reducible show wpAny _ _ (subscriptTail _ _ (Value.ref _) (Value.int (Int.fmod _ 16) _)) _ _ _); (with_unfolding_all refine' item_anyK (ns := [48, 49, 50, 51, 52, 53, 54, 55, 56, 57, 65, 66, 67, 68, 69, 70]) ?k1 ?k2 ?k3 ?k4 ?k5 ?_ ?k6; (case k1 => is_list); (case k2 => repeat constructor); (case k3 => exact (fm16 (by assumption) (by assumption)).1); (case k4 => exact (fm16 (by assumption) (by assumption)).2); (case k5 => decide); (case k6 => with_unfolding_all rfl); k_whole); intro _))
theorem spelled_c {l : Addr} {vs : List Value} {ns : List Int}
    (B : Below callerA base [] h₀) (F : Fr h₀ L hp m) (X : (hd81.heap_39 w.params).In h₀) (T : TopX mean mg mb h₀) (hk : cs.kind = .function)
    (hl : hp.IsList l vs.toArray) (hi : IntsAre vs ns) (hr : Byt ns) (hlen : ns.length ≤ 63)
    (hret : ∀ r h' tk', SpelledR ns r h₀ L h' → Fr h₀ L h' m → Kept hp L h' → Q r { heap := h', gens := gn, drawn := dr, toks := tk', os := os }) :
    wpAny (model PR w) (callerA.deeper (envOf cn cs L a ccd)) (call (.ref 105) [.ref l]) Q E { heap := hp, gens := gn, drawn := dr, toks := tk, os := os } := by
  have h0 : 0 ≤ ns.getD (Int.toNat 0) 0 := (byt_getD hr 0).1
  have h1 : ns.getD (Int.toNat 0) 0 < 256 := (byt_getD hr 0).2
  ktr_call "" [(Str.ofString "piece", Value.ref l)]
  w_on
  k_steps
  all_goals first
    | exact hret _ _ _ (.inl ⟨by omega, rfl⟩) (by assumption) (by assumption)
    | exact hret _ _ _ (.inr ⟨by omega, _, _, _, rfl, .cons _ _ (.cons _ _ (.cons _ _ .nil)), news_head (by assumption)⟩) (by assumption) (by assumption)
end
local macro_rules | `(tactic| walk_at "call builtin:ord") => `(tactic| ((show wpAny _ _ (call (Value.builtin "ord") [Value.bytes (byteArr _) _]) _ _ _); k_dflt (refine' ord_ns ?r ?l ?_; (case r => assumption); (case l => omega); k_whole)))
local macro_rules | `(tactic| walk_at "subscriptTail") => `(tactic| ((with_reducible show wpAny _ _ (subscriptTail _ _ (Value.bytes _ _) (Value.int _ _)) _ _ _); k_dflt (refine' hex_item ?k ?_ ?hs ?ht; (case k => first | exact fd16 (by assumption) (by assumption) | exact fm16 (by assumption) (by assumption)); (case hs => with_unfolding_all rfl); (case ht => intro _; with_unfolding_all rfl); k_whole)))
local macro_rules | `(tactic| walk_at "call type:bytes") => `(tactic| (k_here; (with_reducible show wpAny _ _ (call (Value.type "bytes") [Value.ref _]) _ _ _); k_dflt (refine' bytes_tupF ?F ?N ?l ?i ?r ?z ?h ?_; (case F => k_asm); (case N => k_asm); (case l => k_mem); (case i => repeat constructor); (case r => exact in2 (byt_getD figs_byt _) (byt_getD figs_byt _)); (case z => (simp only [List.length_cons, List.length_nil]; decide)); (case h => exact rfl); k_whole); intro h' t' k' F' N'; (try k_sweep)))
local macro_rules | `(tactic| walk_at "binaryOp Add bytes bytes") => `(tactic| ((with_reducible show wpAny _ _ (binaryOp Operator.Add (Value.bytes _ _) (Value.bytes (byteArr _) _)) _ _ _); k_dflt (refine' add_esc ?z ?_; (case z => (simp only [List.length_cons, List.length_nil]; decide)); k_whole); intro t' k'))
local macro_rules | `(tactic| walk_at "call type:list") => `(tactic| (k_here; (with_reducible show wpAny _ _ (call (Value.type "list") [Value.bytes (byteArr _) _]) _ _ _); k_dflt (refine' list_bytesF ?hh ?F ?N ?r ?z ?_; (case hh => exact rfl); (case F => k_asm); (case N => k_asm); (case r => exact spell_byt _); (case z => (simp only [List.length_cons, List.length_nil]; decide)); k_whole); intro l9 vs9 c9 h' tk' F' N' i9; (try k_sweep)))
section
variable {w : World} {mean : ExcName → Option Value} {mg mb : Str → Option Value} {cn : Str} {cs : Scope} {a : Addr} {ccd : Value} {base h₀ hp : Heap} {L : Addr} {m : Str → Option Value} {gn : Array GenState} {dr : Drawn} {tk : Nat} {os : OsState} {Q E : Value → Shared → Prop}
theorem quoted_c {l : Addr} {vs : List Value} {ns : List Int}
    (B : Below callerA base [] h₀) (F : Fr h₀ L hp m) (X : (hd81.heap_39 w.params).In h₀) (T : TopX mean mg mb h₀) (XB : (hd81.heap_39 w.params).In base) (TB : TopX mean mg mb base) (hk : cs.kind = .function)
    (hl : hp.IsList l vs.toArray) (hi : IntsAre vs ns) (hr : Byt ns) (hlen : ns.length ≤ 63)
    (hret : ∀ r h' tk', SpelledR ns r h₀ L h' → Fr h₀ L h' m → Kept hp L h' → Q r { heap := h', gens := gn, drawn := dr, toks := tk', os := os }) :
    wpAny (model PR w) (callerA.deeper (envOf cn cs L a ccd)) (call (.ref 91) [.ref l]) Q E { heap := hp, gens := gn, drawn := dr, toks := tk, os := os } := by
  have h0 : 0 ≤ ns.getD 0 0 := (byt_getD hr 0).1
  have h1 : ns.getD 0 0 < 256 := (byt_getD hr 0).2
  ktr_call "S" [(Str.ofString "piece", Value.ref l)]
  w_on
  k_steps
  all_goals first
    | exact hret _ _ _ (.inl ⟨by omega, rfl⟩) (by assumption) (by assumption)
    | exact hret _ _ _ (.inr ⟨by omega, _, _, _, rfl, by assumption, news_head (by assumption)⟩) (by assumption) (by assumption)
end
section
variable {w : World} {mean : ExcName → Option Value} {mg mb : Str → Option Value} {cn : Str} {cs : Scope} {a : Addr} {ccd : Value} {base h₀ hp : Heap} {L : Addr} {m : Str → Option Value} {gn : Array GenState} {dr : Drawn} {tk : Nat} {os : OsState} {Q E : Value → Shared → Prop}
theorem quote_c {ns : List Int} {tb : Tok}
    (B : Below callerA base [] h₀) (F : Fr h₀ L hp m) (X : (hd81.heap_39 w.params).In h₀) (T : TopX mean mg mb h₀) (hk : cs.kind = .function) (hr : Byt ns) (hl : ns.length = 1)
    (hret : ∀ t h' tk', Fr h₀ L h' m → Kept hp L h' → Q (.bytes (byteArr (spell ns)) t) { heap := h', gens := gn, drawn := dr, toks := tk', os := os }) :
    wpAny (model PR w) (callerA.deeper (envOf cn cs L a ccd)) (call (.ref 28) [.bytes (byteArr ns) tb]) Q E { heap := hp, gens := gn, drawn := dr, toks := tk, os := os } := by
  have h0 : 0 ≤ ns.getD 0 0 := (byt_getD hr 0).1
  have h1 : ns.getD 0 0 < 256 := (byt_getD hr 0).2
  have hlen : ns.length ≤ 63 := by omega
  ktr_call "" [(Str.ofString "c", Value.bytes (byteArr ns) tb)]
  w_on
  k_steps
  all_goals first
    | exact hret _ _ _ (by assumption) (by assumption)
    | (exfalso; omega)
end
inductive PiecesAre (news : List (Addr × Obj)) : List Value → List (List Int) → Prop where
  | nil : PiecesAre news [] []
  | cons {a : Addr} {items : Array Value} {c : Nat} {ns : List Int} {vs : List Value} {nss : List (List Int)} : (a, listOf items c) ∈ news → IntsAre items.toList ns → Byt ns → PiecesAre news vs nss → PiecesAre news (.ref a :: vs) (ns :: nss)
theorem PiecesAre.mono {news news' : List (Addr × Obj)} (hs : ∀ p ∈ news, p ∈ news') : ∀ {vs : List Value} {nss : List (List Int)}, PiecesAre news vs nss → PiecesAre news' vs nss
  | _, _, .nil => .nil
  | _, _, .cons h1 h2 h3 h4 => .cons (hs _ h1) h2 h3 (h4.mono hs)
theorem PiecesAre.snoc {news : List (Addr × Obj)} {a : Addr} {items : Array Value} {c : Nat} {ns : List Int} (hm : (a, listOf items c) ∈ news) (hi : IntsAre items.toList ns) (hb : Byt ns) :
    ∀ {vs : List Value} {nss : List (List Int)}, PiecesAre news vs nss → PiecesAre news (vs ++ [.ref a]) (nss ++ [ns])
  | _, _, .nil => .cons hm hi hb .nil
  | _, _, .cons h1 h2 h3 h4 => .cons h1 h2 h3 (h4.snoc hm hi hb)
theorem PiecesAre.get {news : List (Addr × Obj)} : ∀ {vs : List Value} {nss : List (List Int)}, PiecesAre news vs nss → ∀ {i : Nat} {v : Value}, vs[i]? = some v →
    ∃ a items c ns, v = .ref a ∧ nss[i]? = some ns ∧ (a, listOf items c) ∈ news ∧ IntsAre items.toList ns ∧ Byt ns
  | _, _, .nil, _, _, h => by simp at h
  | _, _, .cons h1 h2 h3 h4, 0, _, h => by
    simp only [List.getElem?_cons_zero, Option.some.injEq] at h
    exact ⟨_, _, _, _, h.symm, rfl, h1, h2, h3⟩
  | _, _, .cons h1 h2 h3 h4, i + 1, _, h => by
    simp only [List.getElem?_cons_succ] at h
    obtain ⟨a, items, c, ns, e1, e2, e3⟩ := h4.get h
    exact ⟨a, items, c, ns, e1, by simpa using e2, e3⟩
theorem PiecesAre.length {news : List (Addr × Obj)} : ∀ {vs : List Value} {nss : List (List Int)}, PiecesAre news vs nss → vs.length = nss.length
  | _, _, .nil => rfl
  | _, _, .cons _ _ _ h4 => by simp only [List.length_cons, h4.length]
theorem item_last {prog : Program} {w : World} {A : Around} {E : Value → Shared → Prop} {s : Shared} {value slice : Expr} {l : Addr} {items : Array Value} {refs : List Value} {v : Value} {u : Tok} {Q : Value → Shared → Prop} (hl : s.heap.IsList l items) (e : items.toList = refs ++ [v]) (h : Q v s)
    (hs : subscripted slice false (.ref l) (.int (-1) u) = operate [.ref l, .int (-1) u] (getItem (.ref l) (.int (-1) u))) :
    wpAny (model prog w) A (subscriptTail value slice (.ref l) (.int (-1) u)) Q E s := by
  have hz : items.size = refs.length + 1 := by
    have := congrArg List.length e
    simpa using this
  refine tail_any hl.typeIs slot_list_getitem.lookup (wpAny_getItem_list_neg hl (by decide) (by omega) (by decide) ?_ h) hs
  rw [show ((-1 : Int) + (items.size : Int)).toNat = refs.length by omega, ← Array.getElem?_toList, e]
  simp
theorem intsAre_push {b : Array Value} {ns : List Int} {v : Int} {t : Tok} (h : IntsAre b.toList ns) : IntsAre (b.push (.int v t)).toList (ns ++ [v]) := by
  rw [Array.toList_push]
  exact h.append (.cons _ _ .nil)
theorem byt_snoc {ns : List Int} {v : Int} (h : Byt ns) (hv : 0 ≤ v ∧ v < 256) : Byt (ns ++ [v]) := by
  intro n hn
  rcases List.mem_append.mp hn with hn | hn
  · exact h n hn
  · rw [List.mem_singleton.mp hn]; exact hv
abbrev kindsL : List Int := [0, 48, 57, 65, 70, 97, 102, 56, 69, 101, 32, 9, 95, 61, 126, 71]
theorem kinds_byt : Byt kindsL := by
  intro n hn
  simp only [List.mem_cons, List.not_mem_nil, or_false] at hn
  omega
/-- what stands between two turns of the building loop -/
structure PF (P K D q : Addr) (A b : Array Value) (ns : List Int) (refs : List Value) (nss : List (List Int)) (pl : List (Addr × Obj)) (i : Nat) : Prop where
  last : A.toList = refs ++ [.ref q]
  itA : IntsAre b.toList ns
  byt : Byt ns
  old : PiecesAre pl refs nss
  total : nss.flatten.length + ns.length = i
  count : nss.length ≤ i
  qP : q ≠ P
  KP : K ≠ P
  DP : D ≠ P
  Kq : K ≠ q
  Dq : D ≠ q
  tP : ∀ p ∈ pl, p.1 ≠ P
  tq : ∀ p ∈ pl, p.1 ≠ q
def PJ (P K D : Addr) (ok od : Obj) (i : Nat) (m : Str → Option Value) (nx : List (Addr × Obj)) : Prop :=
  ∃ (A : Array Value) (c : Nat) (q : Addr) (b : Array Value) (c' : Nat) (ns : List Int) (refs : List Value) (nss : List (List Int)) (pl : List (Addr × Obj)),
    nx = (P, listOf A c) :: (q, listOf b c') :: (K, ok) :: (D, od) :: pl ∧ PF P K D q A b ns refs nss pl i ∧ m (Str.ofString "pieces") = some (.ref P) ∧ m (Str.ofString "kinds") = some (.ref K)
section
variable {P K D q r : Addr} {ok od : Obj} {A b : Array Value} {c c' : Nat} {ns : List Int} {refs : List Value} {nss : List (List Int)} {pl own : List (Addr × Obj)} {i : Nat} {h₀ h' : Heap} {L : Addr} {m' : Str → Option Value} {v : Int} {t : Tok} {gn : Array GenState} {dr : Drawn} {tk tk' : Nat} {os : OsState} {h : Heap}
theorem pf_push (f : PF P K D q A b ns refs nss pl i) (hv : 0 ≤ v ∧ v < 256) : PF P K D q A (b.push (.int v t)) (ns ++ [v]) refs nss pl (i + 1) where
  last := f.last
  itA := intsAre_push f.itA
  byt := byt_snoc f.byt hv
  old := f.old
  total := by rw [List.length_append, List.length_singleton, ← Nat.add_assoc, f.total]
  count := Nat.le_succ_of_le f.count
  qP := f.qP
  KP := f.KP
  DP := f.DP
  Kq := f.Kq
  Dq := f.Dq
  tP := f.tP
  tq := f.tq
theorem pj_endA (f : PF P K D q A b ns refs nss pl i) (ho : OwnOff own (((P, listOf A c) :: (q, listOf b c') :: (K, ok) :: (D, od) :: pl).map (·.1))) (hv : 0 ≤ v ∧ v < 256) (F : Fr h₀ L h' m')
    (N : News h₀ L h' ((P, listOf A c) :: (q, listOf (b.push (.int v t)) (c' + 1)) :: (K, ok) :: (D, od) :: (pl ++ own))) (m1 : m' (Str.ofString "pieces") = some (.ref P)) (m2 : m' (Str.ofString "kinds") = some (.ref K)) :
    InvEndG h₀ L (fun m' nx => (D, od) ∈ nx ∧ PJ P K D ok od (i + 1) m' nx) own { heap := h, gens := gn, drawn := dr, toks := tk, os := os } { heap := h', gens := gn, drawn := dr, toks := tk', os := os } :=
  ⟨h', tk', m', _, (P, listOf A c) :: (q, listOf (b.push (.int v t)) (c' + 1)) :: (K, ok) :: (D, od) :: pl, rfl, F, N, fun p hp => by
    simp only [List.mem_cons, List.mem_append] at hp ⊢
    rcases hp with hp | hp | hp | hp | hp
    · exact .inl hp
    · exact .inr (.inl hp)
    · exact .inr (.inr (.inl hp))
    · exact .inr (.inr (.inr (.inl hp)))
    · exact .inr (.inr (.inr (.inr (.inl hp)))), fun p hp => by
    simp only [List.mem_cons, List.mem_append]
    exact .inr (.inr (.inr (.inr (.inr hp)))), ho, by simp, ⟨_, _, _, _, _, _, _, _, _, rfl, pf_push f hv, m1, m2⟩⟩
theorem pj_endB (f : PF P K D q A b ns refs nss pl i) (ho : OwnOff own (((P, listOf A c) :: (q, listOf b c') :: (K, ok) :: (D, od) :: pl).map (·.1))) (hv : 0 ≤ v ∧ v < 256) (F : Fr h₀ L h' m')
    (N : News h₀ L h' ((r, listOf #[] 0) :: (P, listOf (A.push (.ref r)) (c + 1)) :: (q, listOf (b.push (.int v t)) (c' + 1)) :: (K, ok) :: (D, od) :: (pl ++ own))) (m1 : m' (Str.ofString "pieces") = some (.ref P)) (m2 : m' (Str.ofString "kinds") = some (.ref K))
    (hr : ∀ p ∈ (pl ++ own), p.1 < r) (r1 : @LT.lt Nat _ P r) (r2 : @LT.lt Nat _ q r) (r3 : @LT.lt Nat _ K r) (r4 : @LT.lt Nat _ D r) :
    InvEndG h₀ L (fun m' nx => (D, od) ∈ nx ∧ PJ P K D ok od (i + 1) m' nx) own { heap := h, gens := gn, drawn := dr, toks := tk, os := os } { heap := h', gens := gn, drawn := dr, toks := tk', os := os } := by
  have g := pf_push (t := t) f hv
  refine ⟨h', tk', m', _, (P, listOf (A.push (.ref r)) (c + 1)) :: (r, listOf #[] 0) :: (K, ok) :: (D, od) :: ((q, listOf (b.push (.int v t)) (c' + 1)) :: pl), rfl, F, N, fun p hp => ?_, fun p hp => ?_, fun p hp x hx => ?_, by simp, ⟨_, _, _, _, _, [], refs ++ [.ref q], nss ++ [ns ++ [v]], _, rfl, ?_, m1, m2⟩⟩
  · simp only [List.mem_cons, List.mem_append] at hp ⊢
    rcases hp with hp | hp | hp | hp | hp | hp
    · exact .inr (.inl hp)
    · exact .inl hp
    · exact .inr (.inr (.inr (.inl hp)))
    · exact .inr (.inr (.inr (.inr (.inl hp))))
    · exact .inr (.inr (.inl hp))
    · exact .inr (.inr (.inr (.inr (.inr (.inl hp)))))
  · simp only [List.mem_cons, List.mem_append]
    exact .inr (.inr (.inr (.inr (.inr (.inr hp)))))
  · have hlt : p.1 < r := hr p (List.mem_append_right _ hp)
    have ho' := ho p hp
    simp only [List.map_cons, List.mem_cons] at hx ho'
    rcases hx with rfl | rfl | rfl | rfl | rfl | hx
    · exact ho' _ (.inl rfl)
    · exact Nat.ne_of_lt hlt
    · exact ho' _ (.inr (.inr (.inl rfl)))
    · exact ho' _ (.inr (.inr (.inr (.inl rfl))))
    · exact ho' _ (.inr (.inl rfl))
    · exact ho' _ (.inr (.inr (.inr (.inr hx))))
  · have hl : ∀ p ∈ pl, p.1 < r := fun p hp => hr p (List.mem_append_left _ hp)
    exact { last := by rw [Array.toList_push, g.last], itA := .nil, byt := fun n hn => (nomatch hn), old := (g.old.mono fun p hp => .tail _ hp).snoc (.head _) g.itA g.byt
            total := by have := g.total; simp only [List.flatten_append, List.length_append, List.flatten_cons, List.flatten_nil, List.length_nil, List.append_nil] at this ⊢; omega
            count := by have := f.count; simp only [List.length_append, List.length_cons, List.length_nil]; omega
            qP := Nat.ne_of_gt r1, KP := f.KP, DP := f.DP, Kq := Nat.ne_of_lt r3, Dq := Nat.ne_of_lt r4
            tP := fun p hp => by
              rcases List.mem_cons.mp hp with rfl | hp
              · exact f.qP
              · exact f.tP p hp
            tq := fun p hp => by
              rcases List.mem_cons.mp hp with rfl | hp
              · exact Nat.ne_of_lt r2
              · exact Nat.ne_of_lt (hl p hp) }
theorem map_two {x a b : Str} {w u v : Option Value} {m₁ : Str → Option Value} (ha : m₁ a = u) (hb : m₁ b = v) : (fun y => if y = x then w else m₁ y) = fun y => if y = x then w else if y = a then u else if y = b then v else m₁ y := by
  funext y
  by_cases h1 : y = x
  · simp [h1]
  · simp only [if_neg h1]
    by_cases h2 : y = a
    · subst h2; simp [ha]
    · simp only [if_neg h2]
      by_cases h3 : y = b
      · subst h3; simp [hb]
      · simp only [if_neg h3]
theorem map_two' {a b : Str} {u v : Option Value} {m₁ : Str → Option Value} (ha : m₁ a = u) (hb : m₁ b = v) : m₁ = fun y => if y = a then u else if y = b then v else m₁ y := by
  funext y
  by_cases h2 : y = a
  · subst h2; simp [ha]
  · simp only [if_neg h2]
    by_cases h3 : y = b
    · subst h3; simp [hb]
    · simp only [if_neg h3]
end
theorem pieces_loop {prog : Program} {w : World} {A₁ : Around} {E : Value → Shared → Prop} {s : Shared} {env : Env} {h₀ : Heap} {x : Str} {body : List Stmt} {Q : Flow → Shared → Prop} {P q₀ K D : Addr} {ok : Obj} {ws : List Value} {ns₀ : List Int} {m₀ : Str → Option Value} {nn c₀ c₁ : Nat}
    (hh : A₁.handled = none) (N : News h₀ env.locals s.heap [(D, listOf ws.toArray nn), (P, listOf #[.ref q₀] c₀), (q₀, listOf #[] c₁), (K, ok)]) (hPD : @LT.lt Nat _ P D) (hqD : @LT.lt Nat _ q₀ D) (hKD : @LT.lt Nat _ K D) (hqP : @LT.lt Nat _ q₀ P) (hKP : @LT.lt Nat _ K P) (hKq : @LT.lt Nat _ K q₀) (hI : IntsAre ws ns₀)
    (F : Fr h₀ env.locals s.heap m₀) (m1 : m₀ (Str.ofString "pieces") = some (.ref P)) (m2 : m₀ (Str.ofString "kinds") = some (.ref K))
    (turn : ∀ (A : Array Value) c q (b : Array Value) c' ns refs nss pl i n t (u : Str → Option Value) h tk own, PF P K D q A b ns refs nss pl i → i < ns₀.length → OwnOff own (((P, listOf A c) :: (q, listOf b c') :: (K, ok) :: (D, listOf ws.toArray nn) :: pl).map (·.1)) →
      Fr h₀ env.locals h (fun y => if y = x then some (.int n t) else if y = Str.ofString "pieces" then some (.ref P) else if y = Str.ofString "kinds" then some (.ref K) else u y) →
      News h₀ env.locals h ((P, listOf A c) :: (q, listOf b c') :: (K, ok) :: (D, listOf ws.toArray nn) :: (pl ++ own)) →
      wpAny (model prog w) A₁ (execs body env) (InvPostG h₀ env.locals (fun m' nx => (D, listOf ws.toArray nn) ∈ nx ∧ PJ P K D ok (listOf ws.toArray nn) (i + 1) m' nx) own { s with heap := h, toks := tk } Q) E { s with heap := h, toks := tk })
    (done : ∀ (A : Array Value) c q (b : Array Value) c' ns refs nss pl (u : Str → Option Value) h tk, PF P K D q A b ns refs nss pl ns₀.length →
      Fr h₀ env.locals h (fun y => if y = Str.ofString "pieces" then some (.ref P) else if y = Str.ofString "kinds" then some (.ref K) else u y) → News h₀ env.locals h ((P, listOf A c) :: (q, listOf b c') :: (K, ok) :: (D, listOf ws.toArray nn) :: pl) → Q .next { s with heap := h, toks := tk }) :
    wpAny (model prog w) A₁ (pyIter (.ref D)) (fun it s₂ => LoopAtV prog w A₁ h₀ env x body Q E it s₂) E s := by
  have N' : News h₀ env.locals s.heap [(P, listOf #[.ref q₀] c₀), (q₀, listOf #[] c₁), (K, ok), (D, listOf ws.toArray nn)] := fun p hp => N p (by
    simp only [List.mem_cons] at hp ⊢
    rcases hp with hp | hp | hp | hp | hp
    · exact .inr (.inl hp)
    · exact .inr (.inr (.inl hp))
    · exact .inr (.inr (.inr (.inl hp)))
    · exact .inl hp
    · exact .inr (.inr (.inr (.inr hp))))
  refine kdl_iter (fun i m nx => PJ P K D ok (listOf ws.toArray nn) i m nx) hh (.tail _ (.tail _ (.tail _ (.head _)))) F N' ?_ ?_ ?_
  · exact ⟨_, _, _, _, _, [], [], [], [], rfl, { last := rfl, itA := .nil, byt := fun n hn => (nomatch hn), old := .nil, total := rfl, count := Nat.le_refl _, qP := Nat.ne_of_lt hqP, KP := Nat.ne_of_lt hKP, DP := Nat.ne_of_gt hPD, Kq := Nat.ne_of_lt hKq, Dq := Nat.ne_of_gt hqD, tP := fun p hp => (nomatch hp), tq := fun p hp => (nomatch hp) }, m1, m2⟩
  · rintro i v m₁ nx h tk own hv hoff _ ⟨A, c, q, b, c', ns, refs, nss, pl, rfl, f, e1, e2⟩ F₁ N₁
    have hlt : i < ns₀.length := by
      rw [← hI.length]
      exact (List.getElem?_eq_some_iff.mp hv).1
    obtain ⟨t, ht⟩ := hI.get i ns₀[i] (by simp [hlt])
    rw [hv] at ht
    cases Option.some.inj ht
    rw [map_two e1 e2] at F₁
    exact turn A c q b c' ns refs nss pl i _ t m₁ h tk own f hlt hoff F₁ N₁
  · rintro m₁ nx h tk ⟨A, c, q, b, c', ns, refs, nss, pl, rfl, f, e1, e2⟩ F₁ N₁
    rw [map_two' e1 e2] at F₁
    rw [hI.length] at f
    exact done A c q b c' ns refs nss pl m₁ h tk f F₁ N₁
theorem own_ne {own pl : List (Addr × Obj)} {adr : List Addr} {a : Addr} (ho : OwnOff own adr) (ha : a ∈ adr) (h : ∀ p ∈ pl, p.1 ≠ a) : ∀ p ∈ pl ++ own, p.1 ≠ a := fun p hp => by
  rcases List.mem_append.mp hp with hp | hp
  · exact h p hp
  · exact ho p hp a ha
theorem fm_16 (n : Int) : 0 ≤ n.fmod 16 ∧ n.fmod 16 < 16 := by
  have := Int.fmod_eq_emod_of_nonneg n (show (0 : Int) ≤ 16 by decide); omega
theorem fm_256 (n : Int) : 0 ≤ n.fmod 256 ∧ n.fmod 256 < 256 := by
  have := Int.fmod_eq_emod_of_nonneg n (show (0 : Int) ≤ 256 by decide); omega
theorem kinds_hide {h₀ h : Heap} {L K : Addr} {a b d : Addr × Obj} {its : List Value} {c : Nat} (N : News h₀ L h [a, b, d, (K, listOf its.toArray c)]) (hi : IntsAre its kindsL) : ∃ kits, IntsAre kits kindsL ∧ News h₀ L h [a, b, d, (K, listOf kits.toArray c)] := ⟨_, hi, N⟩
theorem pf_sizes {P K D q : Addr} {A b : Array Value} {ns : List Int} {refs : List Value} {nss : List (List Int)} {pl : List (Addr × Obj)} {i : Nat} (f : PF P K D q A b ns refs nss pl i) (h : i < 63) : b.size ≤ 64 ∧ A.size ≤ 64 := by
  have h1 := f.itA.length
  have h2 := congrArg List.length f.last
  have h3 := f.old.length
  have h4 := f.total
  have h5 := f.count
  simp only [Array.length_toList, List.length_append, List.length_cons, List.length_nil] at h1 h2
  omega
theorem nat_ne {a b : Addr} (h : a ≠ b) : @Ne Nat a b := h
theorem pj_endC {P K D q r : Addr} {ok od : Obj} {A b : Array Value} {c c' : Nat} {ns : List Int} {refs : List Value} {nss : List (List Int)} {pl own : List (Addr × Obj)} {i : Nat} {h₀ h' : Heap} {L : Addr} {m' : Str → Option Value} {v : Int} {t : Tok} {gn : Array GenState} {dr : Drawn} {tk tk' : Nat} {os : OsState} {h : Heap}
    (f : PF P K D q A b ns refs nss pl i) (ho : OwnOff own (((P, listOf A c) :: (q, listOf b c') :: (K, ok) :: (D, od) :: pl).map (·.1))) (hv : 0 ≤ v ∧ v < 256) (F : Fr h₀ L h' m')
    (N : News h₀ L h' ((r, listOf #[] 0) :: (P, listOf (A.push (.ref r)) (c + 1)) :: (q, listOf (b.push (.int v t)) (c' + 1)) :: (K, ok) :: (D, od) :: (pl ++ own))) (m1 : m' (Str.ofString "pieces") = some (.ref P)) (m2 : m' (Str.ofString "kinds") = some (.ref K))
    (lt : @LT.lt Nat _ P r ∧ @LT.lt Nat _ q r ∧ @LT.lt Nat _ K r ∧ @LT.lt Nat _ D r ∧ AllLt r (pl ++ own)) :
    InvEndG h₀ L (fun m' nx => (D, od) ∈ nx ∧ PJ P K D ok od (i + 1) m' nx) own { heap := h, gens := gn, drawn := dr, toks := tk, os := os } { heap := h', gens := gn, drawn := dr, toks := tk', os := os } :=
  pj_endB f ho hv F N m1 m2 (kst_ltOf lt.2.2.2.2) lt.1 lt.2.1 lt.2.2.1 lt.2.2.2.1
theorem pf_done {P K D q : Addr} {A b : Array Value} {ns : List Int} {refs : List Value} {nss : List (List Int)} {pl : List (Addr × Obj)} {i : Nat} {a1 a2 : Addr × Obj} {c' : Nat} (f : PF P K D q A b ns refs nss pl i) (h : i ≤ 63) :
    PiecesAre ((q, listOf b c') :: a1 :: a2 :: pl) A.toList (nss ++ [ns]) ∧ (nss ++ [ns]).flatten.length ≤ 63 ∧ (nss ++ [ns]).length ≤ 64 := by
  refine ⟨?_, ?_, ?_⟩
  · rw [f.last]
    exact (f.old.mono fun p hp => .tail _ (.tail _ (.tail _ hp))).snoc (.head _) f.itA f.byt
  · have := f.total
    simp only [List.flatten_append, List.length_append, List.flatten_cons, List.flatten_nil, List.length_nil, List.append_nil] at this ⊢
    omega
  · have := f.count
    simp only [List.length_append, List.length_cons, List.length_nil]
    omega
section
variable {w : World} {mean : ExcName → Option Value} {mg mb : Str → Option Value} {cn : Str} {cs : Scope} {a : Addr} {ccd : Value} {base h₀ hp : Heap} {L : Addr} {m : Str → Option Value} {gn : Array GenState} {dr : Drawn} {tk : Nat} {os : OsState} {Q E : Value → Shared → Prop}
local macro_rules | `(tactic| walk_at "call builtin:list.append") => `(tactic| (k_here; (show wpAny _ _ (call (Value.builtin "list.append") [Value.ref _, _]) _ _ _); k_dflt (refine' append_K ?k1 ?k2 ?k3 ?_ ?z; (case k1 => k_asm); (case k2 => k_asm); (case k3 => k_upd); (case z => first | exact Nat.le_trans (by assumption) (show 64 ≤ sizeLine by decide) | size_fits); k_whole); intro h' F' N'; (try k_sweep)))
local macro_rules | `(tactic| walk_at "exec For Name") => `(tactic| (k_here; (rename Fr _ _ _ _ => lF'); (with_unfolding_all refine' For_invVF lF' ?k1 ?k2 ?_; (case k1 => exact rfl); (case k2 => exact rfl); k_whole)))
local macro_rules | `(tactic| k_all) => `(tactic| assumption)
local macro_rules | `(tactic| walk_at "subscriptTail") => `(tactic| (k_here; (with_reducible show wpAny _ _ (subscriptTail _ _ (Value.ref _) (Value.int (-1) _)) _ _ _); k_dflt (refine' item_last ?l ?e ?_ ?s; (case l => is_list); (case e => assumption); (case s => with_unfolding_all rfl); k_whole)))
local macro_rules | `(tactic| walk_at "subscriptTail") => `(tactic| (k_here; (with_reducible show wpAny _ _ (subscriptTail _ _ (Value.ref _) (Value.int (Int.fmod _ 16) _)) _ _ _); (with_unfolding_all refine' item_anyK (ns := [0, 48, 57, 65, 70, 97, 102, 56, 69, 101, 32, 9, 95, 61, 126, 71]) ?k1 ?k2 ?k3 ?k4 ?k5 ?_ ?k6; (case k1 => is_list); (case k2 => assumption); (case k3 => omega); (case k4 => (simp only [List.length_cons, List.length_nil]; omega)); (case k5 => omega); (case k6 => with_unfolding_all rfl); k_whole); intro _))
theorem pieces_c {l : Addr} {vs : List Value} {ns : List Int}
    (B : Below callerA base [] h₀) (F : Fr h₀ L hp m) (X : (hd81.heap_39 w.params).In h₀) (T : TopX mean mg mb h₀) (hk : cs.kind = .function)
    (hl : hp.IsList l vs.toArray) (hi : IntsAre vs ns) (hfit : ns.length ≤ 1048576) (hfit' : vs.length ≤ 1048576)
    (hret : ∀ P (A : Array Value) c nss nw h' tk', PiecesAre nw A.toList nss → nss.flatten.length ≤ 63 → nss.length ≤ 64 → News h₀ L h' ((P, listOf A c) :: nw) → Fr h₀ L h' m → Kept hp L h' → Q (.ref P) { heap := h', gens := gn, drawn := dr, toks := tk', os := os }) :
    wpAny (model PR w) (callerA.deeper (envOf cn cs L a ccd)) (call (.ref 49) [.ref l]) Q E { heap := hp, gens := gn, drawn := dr, toks := tk, os := os } := by
  ktr_call "" [(Str.ofString "script", Value.ref l)]
  w_on
  k_steps
  rename News _ _ _ _ => N9
  rename Fr _ _ _ _ => F9
  obtain ⟨kits, hkits, N9⟩ := kinds_hide N9 (by repeat constructor)
  rename IntsAre _ (List.take 63 ns) => hI9
  refine pieces_loop rfl N9 (by omega) (by omega) (by omega) (by omega) (by omega) (by omega) hI9 F9 rfl rfl ?_ ?_
  · intro A c q b c' ns' refs nss pl i n t u h tk own f hlt hoff F9 N9
    have hPt := own_ne hoff (.head _) f.tP
    have hqt := own_ne hoff (.tail _ (.head _)) f.tq
    have last := f.last
    have qP := nat_ne f.qP
    have KP := nat_ne f.KP
    have DP := nat_ne f.DP
    have Kq := nat_ne f.Kq
    have Dq := nat_ne f.Dq
    obtain ⟨hbz, hAz⟩ := pf_sizes f (Nat.lt_of_lt_of_le hlt (by rw [List.length_take]; exact Nat.min_le_left _ _))
    have hk0 := fm_16 n
    k_steps
    all_goals first
      | exact pj_endA f hoff (fm_256 _) (by assumption) (by assumption) (by with_unfolding_all rfl) (by with_unfolding_all rfl)
      | exact pj_endA f hoff (byt_getD kinds_byt _) (by assumption) (by assumption) (by with_unfolding_all rfl) (by with_unfolding_all rfl)
      | exact pj_endC f hoff (fm_256 _) (by assumption) (by assumption) (by with_unfolding_all rfl) (by with_unfolding_all rfl) (by assumption)
      | exact pj_endC f hoff (byt_getD kinds_byt _) (by assumption) (by assumption) (by with_unfolding_all rfl) (by with_unfolding_all rfl) (by assumption)
  · intro A c q b c' ns' refs nss pl u h tk f F9 N9
    k_steps
    obtain ⟨g1, g2, g3⟩ := pf_done f (by rw [List.length_take]; exact Nat.min_le_left _ _)
    exact hret _ A _ _ _ _ _ g1 g2 g3 (by assumption) (by assumption) (by assumption)
end
section
variable {prog : Program} {w : World} {A : Around} {E : Value → Shared → Prop} {s : Shared} {h₀ h h' : Heap} {L : Addr} {m : Str → Option Value} {news : List (Addr × Obj)} {ns : List Int}
theorem flag_ne {r1 r2 : Value} {Q : Value → Shared → Prop} (f1 : FlagR ns r1) (f2 : FlagR ns r2) (hQ : Q (.bool false) s) : wpAny (model prog w) A (compareOp .NotEq r1 r2) Q E s := by
  rcases f1 with ⟨a1, t1, rfl⟩ | ⟨a1, b1, t1, rfl⟩ | ⟨a1, b1, rfl⟩ <;> rcases f2 with ⟨a2, t2, rfl⟩ | ⟨a2, b2, t2, rfl⟩ | ⟨a2, b2, rfl⟩
  · exact PyProof.Rows.ne_int (by simpa using hQ)
  · rw [a1] at a2; cases a2
  · rw [a1] at a2; cases a2
  · rw [a1] at a2; cases a2
  · exact PyProof.Rows.ne_int (by simpa using hQ)
  · exact absurd b1 b2
  · rw [a1] at a2; cases a2
  · exact absurd b2 b1
  · exact ne_bool (by simpa using hQ)
theorem ne_same {b : Bool} {Q : Value → Shared → Prop} (hQ : Q (.bool false) s) : wpAny (model prog w) A (compareOp .NotEq (.bool b) (.bool b)) Q E s := ne_bool (by simpa using hQ)
theorem list_one {h : Heap} {l : Addr} {vs : List Value} {c : Nat} (N : News h₀ L h [(l, listOf vs.toArray c)]) : h.IsList l vs.toArray := ⟨_, (N _ (.head _)).1, rfl, c, rfl⟩
theorem SpelledR.kept {r : Value} (f : SpelledR ns r h₀ L h) (K : Kept h L h') : SpelledR ns r h₀ L h' := by
  rcases f with ⟨e, rfl⟩ | ⟨e, l, vs, c, rfl, hi, N⟩
  · exact .inl ⟨e, rfl⟩
  · exact .inr ⟨e, l, vs, c, rfl, hi, fun p hp => ⟨K _ _ (N p hp).2.1 (N p hp).1, (N p hp).2⟩⟩
theorem spell_ne {r1 r2 : Value} {Q : Value → Shared → Prop} (f1 : SpelledR ns r1 h₀ L s.heap) (f2 : SpelledR ns r2 h₀ L s.heap) (hu : A.units + 64 < cLine) (hQ : Q (.bool false) s) : wpAny (model prog w) A (compareOp .NotEq r1 r2) Q E s := by
  rcases f1 with ⟨e1, rfl⟩ | ⟨e1, l1, vs1, c1, rfl, hi1, N1⟩ <;> rcases f2 with ⟨e2, rfl⟩ | ⟨e2, l2, vs2, c2, rfl, hi2, N2⟩
  · exact PySem.EqNone.ne_none_none hQ
  · exact absurd e2 e1
  · exact absurd e1 e2
  · exact ke_ne_ints (list_one N1) (list_one N2) hi1 hi2 hu (by simpa using hQ)
theorem lists_ne {l1 l2 : Addr} {vs1 vs2 : List Value} {xs ys : List Int} {Q : Value → Shared → Prop} (h1 : s.heap.IsList l1 vs1.toArray) (h2 : s.heap.IsList l2 vs2.toArray) (i1 : IntsAre vs1 xs) (i2 : IntsAre vs2 ys) (e : xs = ys) (hu : A.units + 64 < cLine) (hQ : Q (.bool false) s) :
    wpAny (model prog w) A (compareOp .NotEq (.ref l1) (.ref l2)) Q E s := ke_ne_ints h1 h2 i1 i2 hu (by simpa [e] using hQ)
theorem bints_inj {b c : Array UInt8} (h : KBw.bInts b = KBw.bInts c) : b = c := by
  apply Array.ext'
  have : ∀ xs ys : List UInt8, (xs.map fun c => (c.toNat : Int)) = (ys.map fun c => (c.toNat : Int)) → xs = ys := by
    intro xs
    induction xs with
    | nil => intro ys h; cases ys with | nil => rfl | cons _ _ => simp at h
    | cons x r ih =>
      intro ys h
      cases ys with
      | nil => simp at h
      | cons y q =>
        simp only [List.map_cons, List.cons.injEq] at h
        have e : x = y := UInt8.toNat_inj.mp (by omega)
        rw [ih q h.2, e]
  exact this _ _ h
theorem cut_one {value : Expr} {slice : Expr} {x : Int} {r : List Int} {t ti : Tok} {Q : Value → Shared → Prop} (hF : Fr h₀ L s.heap m) (hN : News h₀ L s.heap news) (hb : Byt (x :: r)) (hz : r.length ≤ 100)
    (hQ : ∀ h' t' k, Fr h₀ L h' m → News h₀ L h' news → Q (.bytes (byteArr r) t') { s with heap := h', toks := k })
    (hs : subscripted slice false (.bytes (byteArr (x :: r)) t) (.ref s.heap.objs.size) = operate [.ref s.heap.objs.size, .bytes (byteArr (x :: r)) t] (getItem (.bytes (byteArr (x :: r)) t) (.ref s.heap.objs.size)))
    (ht : ∀ v, letTemporaryGo value (.bytes (byteArr (x :: r)) t) v = pure ()) :
    wpAny (model prog w) A (subscriptTail value slice (.bytes (byteArr (x :: r)) t) (.ref s.heap.objs.size)) Q E { s with heap := s.heap.push { cls := .type "slice", data := .fields #[.int 1 ti, .none, .none] } } := by
  refine KBc.slice_K (s := s) (lo := some 1) (hi := none) hF hN (KBa.ints_make hb) (by constructor) (by constructor) (by simp only [List.length_cons]; omega) (fun h' t' k F' N' e => ?_) hs ht
  have e' : KBw.bInts (KBy.picked (byteArr (x :: r)) (some 1) none) = KBw.bInts (byteArr r) := by
    rw [e, KBa.ints_make (show KBa.In r from hb.tail)]
    have e1 : clipAt (x :: r).length 1 = 1 := by unfold clipAt; rw [if_neg (by decide), List.length_cons]; omega
    show ((x :: r).drop (clipAt (x :: r).length 1)).take ((x :: r).length - clipAt (x :: r).length 1) = r
    rw [e1]
    simp
  rw [bints_inj e']
  exact hQ h' t' k F' N'
end
def hexOf (ds : List Int) : List Int := ds.flatMap fun d => [figs.getD (d.fdiv 16).toNat 0, figs.getD (d.fmod 16).toNat 0]
theorem hex_snoc (ds : List Int) (d : Int) : hexOf (ds ++ [d]) = hexOf ds ++ [figs.getD (d.fdiv 16).toNat 0, figs.getD (d.fmod 16).toNat 0] := by simp [hexOf]
theorem hex_len : ∀ ds : List Int, (hexOf ds).length = 2 * ds.length
  | [] => rfl
  | d :: r => by
    have := hex_len r
    simp only [hexOf, List.flatMap_cons, List.length_append, List.length_cons, List.length_nil] at this ⊢
    omega
theorem hex_byt : ∀ ds : List Int, Byt (hexOf ds)
  | [], n, hn => by simp [hexOf] at hn
  | d :: r, n, hn => by
    simp only [hexOf, List.flatMap_cons, List.mem_append] at hn
    rcases hn with hn | hn
    · exact in2 (byt_getD figs_byt _) (byt_getD figs_byt _) n hn
    · exact hex_byt r n hn
/-- what the two figures of a byte are worth -/
theorem fig_worth {k : Int} (h : 0 ≤ k ∧ k < 16) : up (figs.getD k.toNat 0) ∈ figs ∧ ((figs.idxOf (up (figs.getD k.toNat 0)) : Nat) : Int) = k := by
  have q : ∀ j : Fin 16, up (figs.getD j.val 0) ∈ figs ∧ ((figs.idxOf (up (figs.getD j.val 0)) : Nat) : Int) = j.val := by decide +kernel
  have := q ⟨k.toNat, by omega⟩
  refine ⟨this.1, this.2.trans ?_⟩
  show ((k.toNat : Nat) : Int) = k
  omega
theorem hex_worths : ∀ ds : List Int, Byt ds → ∃ ws, worthsOf (hexOf ds) = some ws ∧ numOf 16 ws = numOf 256 ds ∧ ws.length = 2 * ds.length
  | [], _ => ⟨[], rfl, rfl, rfl⟩
  | d :: r, h => by
    obtain ⟨ws, e1, e2, e3⟩ := hex_worths r h.tail
    have h1 := fd16 h.head.1 h.head.2
    have h2 := fm16 h.head.1 h.head.2
    obtain ⟨a1, a2⟩ := fig_worth h1
    obtain ⟨b1, b2⟩ := fig_worth h2
    refine ⟨d.fdiv 16 :: d.fmod 16 :: ws, ?_, ?_, by simp only [List.length_cons, e3]; omega⟩
    · show worthsOf (figs.getD (d.fdiv 16).toNat 0 :: figs.getD (d.fmod 16).toNat 0 :: hexOf r) = _
      simp only [worthsOf, if_pos a1, if_pos b1, e1, Option.map_some, a2, b2]
    · rw [num_cons, num_cons, num_cons, e2, List.length_cons, e3]
      have hd : d = 16 * d.fdiv 16 + d.fmod 16 := (Int.mul_fdiv_add_fmod d 16).symm
      have hp : (256 : Int) ^ r.length = 16 ^ (2 * r.length) := by rw [Int.pow_mul]; rfl
      rw [hp, Int.pow_succ, ← Int.add_assoc]
      congr 1
      rw [Int.mul_comm (16 ^ (2 * r.length)) 16, ← Int.mul_assoc, ← Int.add_mul]
      congr 1
      omega
theorem news_cons {h₀ h : Heap} {L : Addr} {p : Addr × Obj} {led : List (Addr × Obj)} (N1 : News h₀ L h [p]) (N2 : News h₀ L h led) : News h₀ L h (p :: led) := fun q hq => by
  rcases List.mem_cons.mp hq with rfl | hq
  · exact N1 _ (.head _)
  · exact N2 q hq
section
variable {w : World} {mean : ExcName → Option Value} {mg mb : Str → Option Value} {cn : Str} {cs : Scope} {a : Addr} {ccd : Value} {base h₀ hp : Heap} {L : Addr} {m : Str → Option Value} {gn : Array GenState} {dr : Drawn} {tk : Nat} {os : OsState} {Q E : Value → Shared → Prop} {led : List (Addr × Obj)} {l : Addr} {vs : List Value} {ns : List Int}
theorem needs_w {tb t2 t3 : Tok}
    (B : Below callerA base [] h₀) (F : Fr h₀ L hp m) (N : News h₀ L hp led) (X : (hd81.heap_39 w.params).In h₀) (T : TopX mean mg mb h₀) (hr : Byt ns) (hk : cs.kind = .function)
    (hret : ∀ r h' tk', FlagR ns r → Fr h₀ L h' m → News h₀ L h' led →Q r { heap := h', gens := gn, drawn := dr, toks := tk', os := os }) :
    wpAny (model PR w) (callerA.deeper (envOf cn cs L a ccd)) (call (.ref 21) [.bytes (byteArr ns) tb, .int 2 t2, .int 3 t3]) Q E { heap := hp, gens := gn, drawn := dr, toks := tk, os := os } :=
  needs_c B F X T hk hr fun r h' tk' f F' K' => hret r h' tk' f F' (news_kept N K')
theorem flag_w 
    (B : Below callerA base [] h₀) (F : Fr h₀ L hp m) (N : News h₀ L hp led) (X : (hd81.heap_39 w.params).In h₀) (T : TopX mean mg mb h₀) (hl : hp.IsList l vs.toArray) (hi : IntsAre vs ns) (hr : Byt ns) (hlen : ns.length ≤ 63) (hk : cs.kind = .function)
    (hret : ∀ r h' tk', FlagR ns r → Fr h₀ L h' m → News h₀ L h' led →Q r { heap := h', gens := gn, drawn := dr, toks := tk', os := os }) :
    wpAny (model PR w) (callerA.deeper (envOf cn cs L a ccd)) (call (.ref 63) [.ref l]) Q E { heap := hp, gens := gn, drawn := dr, toks := tk, os := os } :=
  flag_c B F X T hk hl hi hr hlen fun r h' tk' f F' K' => hret r h' tk' f F' (news_kept N K')
theorem ishex_w {tb : Tok}
    (B : Below callerA base [] h₀) (F : Fr h₀ L hp m) (N : News h₀ L hp led) (X : (hd81.heap_39 w.params).In h₀) (T : TopX mean mg mb h₀) (hr : Byt ns) (hk : cs.kind = .function)
    (hret : ∀ h' tk', Fr h₀ L h' m → News h₀ L h' led →Q (.bool (figB ns)) { heap := h', gens := gn, drawn := dr, toks := tk', os := os }) :
    wpAny (model PR w) (callerA.deeper (envOf cn cs L a ccd)) (call (.ref 35) [.bytes (byteArr ns) tb]) Q E { heap := hp, gens := gn, drawn := dr, toks := tk, os := os } :=
  ishex_c B F X T hk hr fun h' tk' F' K' => hret h' tk' F' (news_kept N K')
theorem figure_w 
    (B : Below callerA base [] h₀) (F : Fr h₀ L hp m) (N : News h₀ L hp led) (X : (hd81.heap_39 w.params).In h₀) (T : TopX mean mg mb h₀) (hl : hp.IsList l vs.toArray) (hi : IntsAre vs ns) (hr : Byt ns) (hlen : ns.length ≤ 63) (hk : cs.kind = .function)
    (hret : ∀ h' tk', Fr h₀ L h' m → News h₀ L h' led →Q (.bool (figB ns)) { heap := h', gens := gn, drawn := dr, toks := tk', os := os }) :
    wpAny (model PR w) (callerA.deeper (envOf cn cs L a ccd)) (call (.ref 70) [.ref l]) Q E { heap := hp, gens := gn, drawn := dr, toks := tk, os := os } :=
  figure_c B F X T hk hl hi hr hlen fun h' tk' F' K' => hret h' tk' F' (news_kept N K')
theorem worths_w
    (B : Below callerA base [] h₀) (F : Fr h₀ L hp m) (N : News h₀ L hp led) (X : (hd81.heap_39 w.params).In h₀) (T : TopX mean mg mb h₀) (hl : hp.IsList l vs.toArray) (hi : IntsAre vs ns) (hr : Byt ns) (hlen : ns.length ≤ 63) (hk : cs.kind = .function)
    (hnone : ∀ h' tk', worthsOf ns = none → Fr h₀ L h' m → News h₀ L h' led →Q .none { heap := h', gens := gn, drawn := dr, toks := tk', os := os }) (hsome : ∀ lw vsw c ws h' tk', worthsOf ns = some ws → IntsAre vsw ws → Fr h₀ L h' m → News h₀ L h' ((lw, listOf vsw.toArray c) :: led) → Q (.ref lw) { heap := h', gens := gn, drawn := dr, toks := tk', os := os }) :
    wpAny (model PR w) (callerA.deeper (envOf cn cs L a ccd)) (call (.ref 77) [.ref l]) Q E { heap := hp, gens := gn, drawn := dr, toks := tk, os := os } :=
  worths_c B F X T hk hl hi hr hlen fun r h' tk' f F' K' => by
    rcases f with ⟨e, rfl⟩ | ⟨lw, vsw, c, ws, e, rfl, iw, nw⟩
    · exact hnone h' tk' e F' (news_kept N K')
    · exact hsome lw vsw c ws h' tk' e iw F' (news_cons nw (news_kept N K'))
theorem unhexed_w 
    (B : Below callerA base [] h₀) (F : Fr h₀ L hp m) (N : News h₀ L hp led) (X : (hd81.heap_39 w.params).In h₀) (T : TopX mean mg mb h₀) (XB : (hd81.heap_39 w.params).In base) (TB : TopX mean mg mb base) (hl : hp.IsList l vs.toArray) (hi : IntsAre vs ns) (hr : Byt ns) (hlen : ns.length ≤ 63) (hk : cs.kind = .function)
    (hret : ∀ l' vs' c h' tk', IntsAre vs' ((worthsOf ns).elim [] fun ws => [numOf 16 ws]) → Fr h₀ L h' m → News h₀ L h' ((l', listOf vs'.toArray c) :: led) → Q (.ref l') { heap := h', gens := gn, drawn := dr, toks := tk', os := os }) :
    wpAny (model PR w) (callerA.deeper (envOf cn cs L a ccd)) (call (.ref 84) [.ref l]) Q E { heap := hp, gens := gn, drawn := dr, toks := tk, os := os } :=
  unhexed_c B F X T XB TB hk hl hi hr hlen fun l' h' tk' vs' c i n F' K' => hret l' vs' c h' tk' i F' (news_cons n (news_kept N K'))
theorem quoted_w 
    (B : Below callerA base [] h₀) (F : Fr h₀ L hp m) (N : News h₀ L hp led) (X : (hd81.heap_39 w.params).In h₀) (T : TopX mean mg mb h₀) (XB : (hd81.heap_39 w.params).In base) (TB : TopX mean mg mb base) (hl : hp.IsList l vs.toArray) (hi : IntsAre vs ns) (hr : Byt ns) (hlen : ns.length ≤ 63) (hk : cs.kind = .function)
    (hret : ∀ r h' tk', SpelledR ns r h₀ L h' → Fr h₀ L h' m → News h₀ L h' led →Q r { heap := h', gens := gn, drawn := dr, toks := tk', os := os }) :
    wpAny (model PR w) (callerA.deeper (envOf cn cs L a ccd)) (call (.ref 91) [.ref l]) Q E { heap := hp, gens := gn, drawn := dr, toks := tk, os := os } :=
  quoted_c B F X T XB TB hk hl hi hr hlen fun r h' tk' f F' K' => hret r h' tk' f F' (news_kept N K')
theorem spelled_w {r₀ : Value}
    (B : Below callerA base [] h₀) (F : Fr h₀ L hp m) (N : News h₀ L hp led) (X : (hd81.heap_39 w.params).In h₀) (T : TopX mean mg mb h₀) (hl : hp.IsList l vs.toArray) (hi : IntsAre vs ns) (hr : Byt ns) (hlen : ns.length ≤ 63) (f₀ : SpelledR ns r₀ h₀ L hp) (hk : cs.kind = .function)
    (hret : ∀ r h' tk', SpelledR ns r₀ h₀ L h' → SpelledR ns r h₀ L h' → Fr h₀ L h' m → News h₀ L h' led →Q r { heap := h', gens := gn, drawn := dr, toks := tk', os := os }) :
    wpAny (model PR w) (callerA.deeper (envOf cn cs L a ccd)) (call (.ref 105) [.ref l]) Q E { heap := hp, gens := gn, drawn := dr, toks := tk, os := os } :=
  spelled_c B F X T hk hl hi hr hlen fun r h' tk' f F' K' => hret r h' tk' (f₀.kept K') f F' (news_kept N K')
theorem refused_w 
    (B : Below callerA base [] h₀) (F : Fr h₀ L hp m) (N : News h₀ L hp led) (X : (hd81.heap_39 w.params).In h₀) (T : TopX mean mg mb h₀) (XB : (hd81.heap_39 w.params).In base) (TB : TopX mean mg mb base) (hl : hp.IsList l vs.toArray) (hi : IntsAre vs ns) (hk : cs.kind = .function)
    (hret : ∀ h' tk', Fr h₀ L h' m → News h₀ L h' led →Q (.bool true) { heap := h', gens := gn, drawn := dr, toks := tk', os := os }) :
    wpAny (model PR w) (callerA.deeper (envOf cn cs L a ccd)) (call (.ref 98) [.ref l]) Q E { heap := hp, gens := gn, drawn := dr, toks := tk, os := os } :=
  refused_c B F X T XB TB hk hl hi fun h' tk' F' K' => hret h' tk' F' (news_kept N K')
theorem number_w {bb : Int} {tb : Tok}
    (B : Below callerA base [] h₀) (F : Fr h₀ L hp m) (N : News h₀ L hp led) (X : (hd81.heap_39 w.params).In h₀) (T : TopX mean mg mb h₀) (hl : hp.IsList l vs.toArray) (hi : IntsAre vs ns) (hr : Byt ns) (hlen : ns.length ≤ 63) (hb : bb = 16 ∨ bb = 256) (hk : cs.kind = .function)
    (hret : ∀ t h' tk', Fr h₀ L h' m → News h₀ L h' led →Q (.int (numOf bb ns) t) { heap := h', gens := gn, drawn := dr, toks := tk', os := os }) :
    wpAny (model PR w) (callerA.deeper (envOf cn cs L a ccd)) (call (.ref 56) [.ref l, .int bb tb]) Q E { heap := hp, gens := gn, drawn := dr, toks := tk, os := os } :=
  number_c B F X T hk hl hi hr hlen hb fun t h' tk' F' K' => hret t h' tk' F' (news_kept N K')
theorem quote_w {n : Int} {tb : Tok}
    (B : Below callerA base [] h₀) (F : Fr h₀ L hp m) (N : News h₀ L hp led) (X : (hd81.heap_39 w.params).In h₀) (T : TopX mean mg mb h₀) (h0 : 0 ≤ n) (h1 : n < 256) (hk : cs.kind = .function)
    (hret : ∀ t h' tk', Fr h₀ L h' m → News h₀ L h' led →Q (.bytes (byteArr [61, figs.getD (n.fdiv 16).toNat 0, figs.getD (n.fmod 16).toNat 0]) t) { heap := h', gens := gn, drawn := dr, toks := tk', os := os }) :
    wpAny (model PR w) (callerA.deeper (envOf cn cs L a ccd)) (call (.ref 28) [.bytes (byteArr [n]) tb]) Q E { heap := hp, gens := gn, drawn := dr, toks := tk, os := os } :=
  quote_c (ns := [n]) B F X T hk (in1 ⟨h0, h1⟩) rfl fun t h' tk' F' K' => hret t h' tk' F' (news_kept N K')
theorem unhex_w {ds : List Int} {tb : Tok}
    (B : Below callerA base [] h₀) (F : Fr h₀ L hp m) (N : News h₀ L hp led) (X : (hd81.heap_39 w.params).In h₀) (T : TopX mean mg mb h₀) (hb : Byt ds) (hlen : ds.length ≤ 63) (hk : cs.kind = .function)
    (hret : ∀ t h' tk', Fr h₀ L h' m → News h₀ L h' led →Q (.int (numOf 256 ds) t) { heap := h', gens := gn, drawn := dr, toks := tk', os := os }) :
    wpAny (model PR w) (callerA.deeper (envOf cn cs L a ccd)) (call (.ref 42) [.bytes (byteArr (hexOf ds)) tb]) Q E { heap := hp, gens := gn, drawn := dr, toks := tk, os := os } :=
  by
    obtain ⟨ws, e1, e2, e3⟩ := hex_worths ds hb
    refine unhex_c (dp := callerA.depth) (un := callerA.units) (gd := callerA.guards) (outer := []) B (by decide) (by decide) F X T hk (hex_byt ds) (by rw [hex_len]; omega) (fun ws' t h' tk' e F' K' => ?_) (fun e nw h' tk' en _ _ => ?_)
    · rw [e1] at e
      cases Option.some.inj e
      rw [e2]
      exact hret t h' tk' F' (news_kept N K')
    · rw [e1] at en; cases en
end
def MJ (Wd : Addr) (Po : Addr × Obj) (nw : List (Addr × Obj)) (nss : List (List Int)) (i : Nat) (m : Str → Option Value) (nx : List (Addr × Obj)) : Prop :=
  ∃ (Wb : Array Value) (cw : Nat) (ds : List Int) (tW : Tok), nx = (Wd, listOf Wb cw) :: Po :: nw ∧ IntsAre Wb.toList ds ∧ ds = (nss.take i).flatten ∧ m (Str.ofString "whole") = some (.ref Wd) ∧ m (Str.ofString "written") = some (.bytes (byteArr (hexOf ds)) tW)
def IJ (Wd : Addr) (Po : Addr × Obj) (rest : List (Addr × Obj)) (ds ns : List Int) (j : Nat) (m : Str → Option Value) (nx : List (Addr × Obj)) : Prop :=
  ∃ (Wb : Array Value) (cw : Nat) (tW : Tok), nx = (Wd, listOf Wb cw) :: Po :: rest ∧ IntsAre Wb.toList (ds ++ ns.take j) ∧ m (Str.ofString "whole") = some (.ref Wd) ∧ m (Str.ofString "written") = some (.bytes (byteArr (hexOf (ds ++ ns.take j))) tW)
section
variable {prog : Program} {w : World} {A₁ : Around} {E : Value → Shared → Prop} {s : Shared} {env : Env} {h₀ : Heap} {x : Str} {body : List Stmt} {Q : Flow → Shared → Prop} {Wd Pa a : Addr} {Po : Addr × Obj} {A items : Array Value} {c c0 c1 : Nat} {nw rest : List (Addr × Obj)} {nss : List (List Int)} {m₀ : Str → Option Value} {t0 : Tok} {ds ns : List Int}
theorem main_loop (hh : A₁.handled = none) (F : Fr h₀ env.locals s.heap m₀) (N : News h₀ env.locals s.heap ((Wd, listOf #[] c0) :: (Pa, listOf A c) :: nw)) (hP : PiecesAre nw A.toList nss) (m1 : m₀ (Str.ofString "whole") = some (.ref Wd)) (m2 : m₀ (Str.ofString "written") = some (.bytes #[] t0))
    (turn : ∀ i a (items : Array Value) c1 ns (Wb : Array Value) cw ds tW (u : Str → Option Value) h tk own, nss[i]? = some ns → (a, listOf items c1) ∈ nw → IntsAre items.toList ns → Byt ns → IntsAre Wb.toList ds → ds = (nss.take i).flatten → OwnOff own (((Wd, listOf Wb cw) :: (Pa, listOf A c) :: nw).map (·.1)) →
      Fr h₀ env.locals h (fun y => if y = x then some (.ref a) else if y = Str.ofString "whole" then some (.ref Wd) else if y = Str.ofString "written" then some (.bytes (byteArr (hexOf ds)) tW) else u y) →
      News h₀ env.locals h ((Wd, listOf Wb cw) :: (Pa, listOf A c) :: (nw ++ own)) →
      wpAny (model prog w) A₁ (execs body env) (InvPostG h₀ env.locals (fun m' nx => (Pa, listOf A c) ∈ nx ∧ MJ Wd (Pa, listOf A c) nw nss (i + 1) m' nx) own { s with heap := h, toks := tk } Q) E { s with heap := h, toks := tk })
    (done : ∀ (Wb : Array Value) cw ds tW (u : Str → Option Value) h tk, IntsAre Wb.toList ds → ds = nss.flatten →
      Fr h₀ env.locals h (fun y => if y = Str.ofString "whole" then some (.ref Wd) else if y = Str.ofString "written" then some (.bytes (byteArr (hexOf ds)) tW) else u y) → News h₀ env.locals h ((Wd, listOf Wb cw) :: (Pa, listOf A c) :: nw) → Q .next { s with heap := h, toks := tk }) :
    wpAny (model prog w) A₁ (pyIter (.ref Pa)) (fun it s₂ => LoopAtV prog w A₁ h₀ env x body Q E it s₂) E s := by
  refine kdl_iter (vs := A.toList) (nn := c) (fun i m nx => MJ Wd (Pa, listOf A c) nw nss i m nx) hh (.tail _ (.head _)) F N ⟨#[], c0, [], t0, rfl, .nil, by simp, m1, m2⟩ ?_ ?_
  · rintro i v m₁ nx h tk own hv hoff _ ⟨Wb, cw, ds, tW, rfl, iw, ed, e1, e2⟩ F₁ N₁
    obtain ⟨a, items, c1, ns, rfl, hn, hm, hi, hb⟩ := hP.get hv
    rw [map_two e1 e2] at F₁
    exact turn i a items c1 ns Wb cw ds tW m₁ h tk own hn hm hi hb iw ed hoff F₁ N₁
  · rintro m₁ nx h tk ⟨Wb, cw, ds, tW, rfl, iw, ed, e1, e2⟩ F₁ N₁
    rw [map_two' e1 e2] at F₁
    rw [hP.length, List.take_length] at ed
    exact done Wb cw ds tW m₁ h tk iw ed F₁ N₁
theorem inner_loop {Wb₀ : Array Value} {cw₀ : Nat} {tW₀ : Tok} (hh : A₁.handled = none) (F : Fr h₀ env.locals s.heap m₀) (N : News h₀ env.locals s.heap ((Wd, listOf Wb₀ cw₀) :: Po :: rest)) (hm : (a, listOf items c1) ∈ rest) (hi : IntsAre items.toList ns) (hb : Byt ns) (hW : IntsAre Wb₀.toList ds)
    (m1 : m₀ (Str.ofString "whole") = some (.ref Wd)) (m2 : m₀ (Str.ofString "written") = some (.bytes (byteArr (hexOf ds)) tW₀))
    (turn : ∀ j n t (Wb : Array Value) cw es tW (u : Str → Option Value) h tk own, 0 ≤ n → n < 256 → j < ns.length → es = ds ++ ns.take j → ds ++ ns.take (j + 1) = es ++ [n] → IntsAre Wb.toList es → OwnOff own (((Wd, listOf Wb cw) :: Po :: rest).map (·.1)) →
      Fr h₀ env.locals h (fun y => if y = x then some (.int n t) else if y = Str.ofString "whole" then some (.ref Wd) else if y = Str.ofString "written" then some (.bytes (byteArr (hexOf es)) tW) else u y) →
      News h₀ env.locals h ((Wd, listOf Wb cw) :: Po :: (rest ++ own)) →
      wpAny (model prog w) A₁ (execs body env) (InvPostG h₀ env.locals (fun m' nx => (a, listOf items c1) ∈ nx ∧ IJ Wd Po rest ds ns (j + 1) m' nx) own { s with heap := h, toks := tk } Q) E { s with heap := h, toks := tk })
    (done : ∀ (Wb : Array Value) cw tW (u : Str → Option Value) h tk, IntsAre Wb.toList (ds ++ ns) →
      Fr h₀ env.locals h (fun y => if y = Str.ofString "whole" then some (.ref Wd) else if y = Str.ofString "written" then some (.bytes (byteArr (hexOf (ds ++ ns))) tW) else u y) → News h₀ env.locals h ((Wd, listOf Wb cw) :: Po :: rest) → Q .next { s with heap := h, toks := tk }) :
    wpAny (model prog w) A₁ (pyIter (.ref a)) (fun it s₂ => LoopAtV prog w A₁ h₀ env x body Q E it s₂) E s := by
  refine kdl_iter (vs := items.toList) (nn := c1) (fun j m nx => IJ Wd Po rest ds ns j m nx) hh (.tail _ (.tail _ hm)) F N ⟨Wb₀, cw₀, tW₀, rfl, by simpa using hW, m1, by simpa using m2⟩ ?_ ?_
  · rintro j v m₁ nx h tk own hv hoff _ ⟨Wb, cw, tW, rfl, iw, e1, e2⟩ F₁ N₁
    have hlt : j < ns.length := by
      rw [← hi.length]
      exact (List.getElem?_eq_some_iff.mp hv).1
    obtain ⟨t, ht⟩ := hi.get j ns[j] (by simp [hlt])
    rw [hv] at ht
    cases Option.some.inj ht
    rw [map_two e1 e2] at F₁
    have hnb := hb _ (List.getElem_mem hlt)
    exact turn j ns[j] t Wb cw _ tW m₁ h tk own hnb.1 hnb.2 hlt rfl (by rw [List.take_add_one, List.getElem?_eq_getElem hlt]; simp) iw hoff F₁ N₁
  · rintro m₁ nx h tk ⟨Wb, cw, tW, rfl, iw, e1, e2⟩ F₁ N₁
    rw [hi.length, List.take_length] at iw e2
    rw [map_two' e1 e2] at F₁
    exact done Wb cw tW m₁ h tk iw F₁ N₁
end
section
variable {h₀ h h' : Heap} {L Wd Pa a : Addr} {Po : Addr × Obj} {rest own led nw : List (Addr × Obj)} {ds ns es : List Int} {j i cw c1 : Nat} {Wb items : Array Value} {n : Int} {t tW : Tok} {m' : Str → Option Value} {gn : Array GenState} {dr : Drawn} {tk tk' : Nat} {os : OsState} {nss : List (List Int)}
theorem inner_end (e : ds ++ ns.take (j + 1) = es ++ [n]) (hW : IntsAre Wb.toList es) (hm : (a, listOf items c1) ∈ rest) (ho : OwnOff own (((Wd, listOf Wb cw) :: Po :: rest).map (·.1))) (F : Fr h₀ L h' m') (N : News h₀ L h' led)
    (hs : ∀ p ∈ (Wd, listOf (Wb.push (.int n t)) (cw + 1)) :: Po :: (rest ++ own), p ∈ led) (m1 : m' (Str.ofString "whole") = some (.ref Wd)) (m2 : m' (Str.ofString "written") = some (.bytes (byteArr (hexOf es ++ [figs.getD (n.fdiv 16).toNat 0, figs.getD (n.fmod 16).toNat 0])) tW)) :
    InvEndG h₀ L (fun m' nx => (a, listOf items c1) ∈ nx ∧ IJ Wd Po rest ds ns (j + 1) m' nx) own { heap := h, gens := gn, drawn := dr, toks := tk, os := os } { heap := h', gens := gn, drawn := dr, toks := tk', os := os } := by
  refine ⟨h', tk', m', led, (Wd, listOf (Wb.push (.int n t)) (cw + 1)) :: Po :: rest, rfl, F, N, fun p hp => hs p ?_, fun p hp => hs p ?_, ho, .tail _ (.tail _ hm), ⟨_, _, tW, rfl, ?_, m1, ?_⟩⟩
  · rcases List.mem_cons.mp hp with rfl | hp
    · exact .head _
    · rcases List.mem_cons.mp hp with rfl | hp
      · exact .tail _ (.head _)
      · exact .tail _ (.tail _ (List.mem_append_left _ hp))
  · exact .tail _ (.tail _ (List.mem_append_right _ hp))
  · rw [e]; exact intsAre_push hW
  · rw [e, hex_snoc]; exact m2
theorem main_end {Po : Addr × Obj} (hn : nss[i]? = some ns) (ed : ds = (nss.take i).flatten) (hW : IntsAre Wb.toList (ds ++ ns)) (ho : OwnOff own (((Wd, listOf items c1) :: Po :: nw).map (·.1))) (F : Fr h₀ L h' m') (N : News h₀ L h' ((Wd, listOf Wb cw) :: Po :: (nw ++ own)))
    (m1 : m' (Str.ofString "whole") = some (.ref Wd)) (m2 : m' (Str.ofString "written") = some (.bytes (byteArr (hexOf (ds ++ ns))) tW)) :
    InvEndG h₀ L (fun m' nx => Po ∈ nx ∧ MJ Wd Po nw nss (i + 1) m' nx) own { heap := h, gens := gn, drawn := dr, toks := tk, os := os } { heap := h', gens := gn, drawn := dr, toks := tk', os := os } := by
  refine ⟨h', tk', m', _, (Wd, listOf Wb cw) :: Po :: nw, rfl, F, N, fun p hp => ?_, fun p hp => ?_, ho, .tail _ (.head _), ⟨_, _, ds ++ ns, tW, rfl, hW, ?_, m1, m2⟩⟩
  · rcases List.mem_cons.mp hp with rfl | hp
    · exact .head _
    · rcases List.mem_cons.mp hp with rfl | hp
      · exact .tail _ (.head _)
      · exact .tail _ (.tail _ (List.mem_append_left _ hp))
  · exact .tail _ (.tail _ (List.mem_append_right _ hp))
  · rw [ed, List.take_add_one, hn, List.flatten_append]
    simp
theorem led_list (N : News h₀ L h led) (hm : (a, listOf items c1) ∈ led) : h.IsList a items.toList.toArray := ⟨_, (N _ hm).1, rfl, c1, rfl⟩
theorem flat_byt {nw : List (Addr × Obj)} : ∀ {vs : List Value} {nss : List (List Int)}, PiecesAre nw vs nss → Byt nss.flatten
  | _, _, .nil, n, hn => by simp at hn
  | _, _, .cons _ _ hb h4, n, hn => by
    rw [List.flatten_cons] at hn
    rcases List.mem_append.mp hn with hn | hn
    · exact hb n hn
    · exact flat_byt h4 n hn
theorem flat_at (hn : nss[i]? = some ns) (h : nss.flatten.length ≤ 63) : (nss.take i).flatten.length + ns.length ≤ 63 := by
  have e : nss = nss.take i ++ ns :: nss.drop (i + 1) := by
    have h1 := List.take_append_drop (i + 1) nss
    rw [List.take_add_one, hn] at h1
    simpa using h1.symm
  rw [e] at h
  simp only [List.flatten_append, List.flatten_cons, List.length_append] at h
  have e2 : ((nss.take i ++ ns :: nss.drop (i + 1)).take i) = nss.take i := by rw [← e]
  omega
end
theorem wl_none {ns : List Int} (e : worthsOf ns = none) : ((worthsOf ns).elim [] fun ws => [numOf 16 ws]) = [] := by rw [e]; rfl
theorem wl_some {ns ws : List Int} (e : worthsOf ns = some ws) : ((worthsOf ns).elim [] fun ws => [numOf 16 ws]) = [numOf 16 ws] := by rw [e]; rfl
theorem pieces_w {w : World} {mean : ExcName → Option Value} {mg mb : Str → Option Value} {cn : Str} {cs : Scope} {a : Addr} {ccd : Value} {base h₀ hp : Heap} {L : Addr} {m : Str → Option Value} {gn : Array GenState} {dr : Drawn} {tk : Nat} {os : OsState} {Q E : Value → Shared → Prop} {led : List (Addr × Obj)} {l : Addr} {vs : List Value} {ns : List Int}
    (B : Below callerA base [] h₀) (F : Fr h₀ L hp m) (_N : News h₀ L hp led) (X : (hd81.heap_39 w.params).In h₀) (T : TopX mean mg mb h₀) (hl : hp.IsList l vs.toArray) (hi : IntsAre vs ns) (hfit : ns.length ≤ 1048576) (hk : cs.kind = .function)
    (hret : ∀ P (A : Array Value) c nss nw h' tk', PiecesAre nw A.toList nss → nss.flatten.length ≤ 63 → nss.length ≤ 64 → Fr h₀ L h' m → News h₀ L h' ((P, listOf A c) :: nw) → Q (.ref P) { heap := h', gens := gn, drawn := dr, toks := tk', os := os }) :
    wpAny (model PR w) (callerA.deeper (envOf cn cs L a ccd)) (call (.ref 49) [.ref l]) Q E { heap := hp, gens := gn, drawn := dr, toks := tk, os := os } :=
  pieces_c B F X T hk hl hi hfit (by rw [hi.length]; exact hfit) fun P A c nss nw h' tk' p1 p2 p3 n F' _ => hret P A c nss nw h' tk' p1 p2 p3 F' n
structure LedIs (led : List (Addr × Obj)) : Prop where
theorem ledIs {h₀ h : Heap} {L : Addr} {led : List (Addr × Obj)} (_ : News h₀ L h led) : LedIs led := ⟨⟩
theorem inner_go {prog : Program} {w : World} {A₁ : Around} {E : Value → Shared → Prop} {s : Shared} {env : Env} {h₀ : Heap} {x : Str} {body : List Stmt} {Q : Flow → Shared → Prop} {Wd a : Addr} {Po : Addr × Obj} {items : Array Value} {c1 : Nat} {rest led : List (Addr × Obj)} {m₀ : Str → Option Value} {ds ns : List Int}
    {Wb₀ : Array Value} {cw₀ : Nat} {tW₀ : Tok} (hL : LedIs ((Wd, listOf Wb₀ cw₀) :: Po :: rest)) (hm : (a, listOf items c1) ∈ rest) (hi : IntsAre items.toList ns) (hb : Byt ns) (hW : IntsAre Wb₀.toList ds) (hh : A₁.handled = none) (F : Fr h₀ env.locals s.heap m₀) (N : News h₀ env.locals s.heap led) (hs : ∀ p ∈ (Wd, listOf Wb₀ cw₀) :: Po :: rest, p ∈ led)
    (m1 : m₀ (Str.ofString "whole") = some (.ref Wd)) (m2 : m₀ (Str.ofString "written") = some (.bytes (byteArr (hexOf ds)) tW₀))
    (turn : ∀ j n t (Wb : Array Value) cw es tW (u : Str → Option Value) h tk own, 0 ≤ n → n < 256 → j < ns.length → es = ds ++ ns.take j → ds ++ ns.take (j + 1) = es ++ [n] → IntsAre Wb.toList es → OwnOff own (((Wd, listOf Wb cw) :: Po :: rest).map (·.1)) →
      Fr h₀ env.locals h (fun y => if y = x then some (.int n t) else if y = Str.ofString "whole" then some (.ref Wd) else if y = Str.ofString "written" then some (.bytes (byteArr (hexOf es)) tW) else u y) →
      News h₀ env.locals h ((Wd, listOf Wb cw) :: Po :: (rest ++ own)) →
      wpAny (model prog w) A₁ (execs body env) (InvPostG h₀ env.locals (fun m' nx => (a, listOf items c1) ∈ nx ∧ IJ Wd Po rest ds ns (j + 1) m' nx) own { s with heap := h, toks := tk } Q) E { s with heap := h, toks := tk })
    (done : ∀ (Wb : Array Value) cw tW (u : Str → Option Value) h tk, IntsAre Wb.toList (ds ++ ns) →
      Fr h₀ env.locals h (fun y => if y = Str.ofString "whole" then some (.ref Wd) else if y = Str.ofString "written" then some (.bytes (byteArr (hexOf (ds ++ ns))) tW) else u y) → News h₀ env.locals h ((Wd, listOf Wb cw) :: Po :: rest) → Q .next { s with heap := h, toks := tk }) :
    wpAny (model prog w) A₁ (pyIter (.ref a)) (fun it s₂ => LoopAtV prog w A₁ h₀ env x body Q E it s₂) E s :=
  inner_loop hh F (fun p hp => N p (hs p hp)) hm hi hb hW m1 m2 turn done
theorem spell3_byt (n : Int) : Byt [61, figs.getD (n.fdiv 16).toNat 0, figs.getD (n.fmod 16).toNat 0] := spell_byt [n]
theorem lt_ne {d : Addr} {l : List (Addr × Obj)} (h : AllLt d l) : ∀ p ∈ l, p.1 ≠ d := fun p hp => Nat.ne_of_lt (kst_ltOf h p hp)
theorem wb_size {Wb : Array Value} {ds ns es : List Int} {j : Nat} (h : IntsAre Wb.toList es) (e : es = ds ++ ns.take j) (hz : ds.length + ns.length ≤ 63) : Wb.size ≤ 64 ∧ es.length ≤ 63 := by
  have h1 := h.length
  have h2 : (ns.take j).length ≤ ns.length := by rw [List.length_take]; exact Nat.min_le_right _ _
  simp only [Array.length_toList] at h1
  have h3 := congrArg List.length e
  rw [List.length_append] at h3
  omega
theorem noI_bytes_add : typeLookup (.type "bytes") (dunderI "add") = pure none := by rw [typeLookup_type, builtinLookup_eq_fast]; kernel_rfl
theorem iadd_by {prog : Program} {w : World} {A : Around} {E : Value → Shared → Prop} {s : Shared} {t u : Tok} {ms : List Int} {x y : Int} {Q : Value → Shared → Prop} (hz : ms.length ≤ 1000) (h : ∀ t' k, Q (.bytes (byteArr (ms ++ [x, y])) t') { s with toks := k }) :
    wpAny (model prog w) A (inplaceOp .Add (.bytes (byteArr ms) t) (.bytes (byteArr [x, y]) u)) Q E s := by
  have hsz : (byteArr ms).size + (byteArr [x, y]).size ≤ 16777216 := by rw [byteArr_size, byteArr_size]; simp only [List.length_cons, List.length_nil]; omega
  have e : byteArr ms ++ byteArr [x, y] = byteArr (ms ++ [x, y]) := by
    apply Array.ext'
    rw [Array.toList_append, byteArr_toList, byteArr_toList, byteArr_toList, List.map_append]
  refine PySem.iconcat_gives (typeIs_bytes s _ t) (typeIs_bytes s _ u) noI_bytes_add KBy.noFill_bytes_add KBy.seq_bytes_add FB.slot_bytes_add FB.entry_bytes_add (FB.args_bytes_add_2 _ _) (KBy.gives_bytes_add (KBy.tooLong_not hsz)) ?_
  by_cases hb : (byteArr ms).isEmpty = true
  · rw [if_pos hb]
    have e0 : byteArr ms = #[] := Array.isEmpty_iff.1 hb
    have h' := h u s.toks
    rw [← e, e0, Array.empty_append] at h'
    exact h'
  · rw [if_neg hb]
    have hc : ¬ (byteArr [x, y]).isEmpty = true := by
      intro q
      have := Array.isEmpty_iff.1 q
      have h2 := congrArg Array.size this
      rw [byteArr_size] at h2
      simp at h2
    rw [if_neg hc]
    have h' := h s.toks (s.toks + 1)
    rw [← e] at h'
    exact ⟨by rw [Array.size_append, sizeLine_eq]; exact hsz, h'⟩
local macro_rules | `(tactic| k_mem) => `(tactic| exact List.mem_append_left _ (by assumption))
local macro_rules | `(tactic| k_all) => `(tactic| assumption)
local macro_rules | `(tactic| walk_at "exec For Name") => `(tactic| (k_here; (rename Fr _ _ _ _ => lF'); (with_unfolding_all refine' For_invVF lF' ?q9k1 ?q9k2 ?_; (case q9k1 => exact rfl); (case q9k2 => exact rfl); k_whole)))
local macro_rules | `(tactic| walk_at "call type:bytes") => `(tactic| (k_here; (with_reducible show wpAny _ _ (call (Value.type "bytes") [Value.ref _]) _ _ _); k_dflt (refine' bytes_lstF ?q9F ?q9N ?q9l ?q9i ?q9r ?q9z ?q9h ?_; (case q9F => k_asm); (case q9N => k_asm); (case q9l => exact led_list (by k_asm) (by k_mem)); (case q9i => first | assumption | (repeat constructor)); (case q9r => first | assumption | exact in1 ⟨by assumption, by assumption⟩); (case q9z => first | omega | (simp only [List.length_cons, List.length_nil]; decide)); (case q9h => exact rfl); k_whole); intro h' t' k' F' N'; (try k_sweep)))
local macro_rules | `(tactic| walk_at "compareOp NotEq") => `(tactic| (k_dflt (refine' flag_ne ?q9a ?q9b ?_; (case q9a => assumption); (case q9b => assumption); k_whole)))
local macro_rules | `(tactic| walk_at "compareOp NotEq") => `(tactic| (k_dflt (refine' spell_ne ?q9a ?q9b ?q9hu ?_; (case q9a => assumption); (case q9b => assumption); (case q9hu => first | k_units | (show (7 : Nat) + 64 < 9900; decide)); k_whole)))
local macro_rules | `(tactic| walk_at "compareOp NotEq bool bool") => `(tactic| (with_reducible refine ne_same ?_))
local macro_rules | `(tactic| walk_at "compareOp NotEq ref ref") => `(tactic| (k_here; k_dflt (refine' lists_ne ?q9a ?q9b ?q9i ?q9j ?q9e ?q9hu ?_; (case q9a => exact led_list (by k_asm) (by k_mem)); (case q9b => exact led_list (by k_asm) (by k_mem)); (case q9i => first | assumption | (repeat constructor)); (case q9j => first | assumption | (repeat constructor)); (case q9e => first | exact wl_none (by assumption) | exact wl_some (by assumption)); (case q9hu => first | k_units | (show (7 : Nat) + 64 < 9900; decide)); k_whole)))
local macro_rules | `(tactic| walk_at "call ref") => `(tactic| (k_here; (with_reducible show wpAny _ _ (call (Value.ref 49) [Value.ref _]) _ _ _); k_dflt (refine' pieces_w ?q9B ?q9F ?q9N ?q9X ?q9T ?q9l ?q9i ?q9f ?q9hk ?_; (case q9B => k_asm); (case q9F => k_asm); (case q9N => k_asm); (case q9X => k_asm); (case q9T => k_asm); (case q9l => is_list); (case q9i => assumption); (case q9f => omega); (case q9hk => exact rfl); k_whole); intro P9 A9 c9 nss9 nw9 h' tk' hp1 hp2 hp3 F' N'; (try k_sweep)))
local macro_rules | `(tactic| walk_at "call ref") => `(tactic| (k_here; (with_reducible show wpAny _ _ (call (Value.ref 21) [Value.bytes (byteArr _) _, Value.int 2 _, Value.int 3 _]) _ _ _); k_dflt (refine' needs_w ?q9B ?q9F ?q9N ?q9X ?q9T ?q9r ?q9hk ?_; (case q9B => k_asm); (case q9F => k_asm); (case q9N => k_asm); (case q9X => k_asm); (case q9T => k_asm); (case q9r => assumption); (case q9hk => exact rfl); k_whole); intro r9 h' tk' f9 F' N'; (try k_sweep)))
local macro_rules | `(tactic| walk_at "call ref") => `(tactic| (k_here; (with_reducible show wpAny _ _ (call (Value.ref 63) [Value.ref _]) _ _ _); k_dflt (refine' flag_w ?q9B ?q9F ?q9N ?q9X ?q9T ?q9l ?q9i ?q9r ?q9n ?q9hk ?_; (case q9B => k_asm); (case q9F => k_asm); (case q9N => k_asm); (case q9X => k_asm); (case q9T => k_asm); (case q9l => exact led_list (by k_asm) (by k_mem)); (case q9i => assumption); (case q9r => assumption); (case q9n => omega); (case q9hk => exact rfl); k_whole); intro r9 h' tk' f9 F' N'; (try k_sweep)))
local macro_rules | `(tactic| walk_at "call ref") => `(tactic| (k_here; (with_reducible show wpAny _ _ (call (Value.ref 35) [Value.bytes (byteArr _) _]) _ _ _); k_dflt (refine' ishex_w ?q9B ?q9F ?q9N ?q9X ?q9T ?q9r ?q9hk ?_; (case q9B => k_asm); (case q9F => k_asm); (case q9N => k_asm); (case q9X => k_asm); (case q9T => k_asm); (case q9r => assumption); (case q9hk => exact rfl); k_whole); intro h' tk' F' N'; (try k_sweep)))
local macro_rules | `(tactic| walk_at "call ref") => `(tactic| (k_here; (with_reducible show wpAny _ _ (call (Value.ref 70) [Value.ref _]) _ _ _); k_dflt (refine' figure_w ?q9B ?q9F ?q9N ?q9X ?q9T ?q9l ?q9i ?q9r ?q9n ?q9hk ?_; (case q9B => k_asm); (case q9F => k_asm); (case q9N => k_asm); (case q9X => k_asm); (case q9T => k_asm); (case q9l => exact led_list (by k_asm) (by k_mem)); (case q9i => assumption); (case q9r => assumption); (case q9n => omega); (case q9hk => exact rfl); k_whole); intro h' tk' F' N'; (try k_sweep)))
local macro_rules | `(tactic| walk_at "call ref") => `(tactic| (k_here; (with_reducible show wpAny _ _ (call (Value.ref 77) [Value.ref _]) _ _ _); k_dflt (refine' worths_w ?q9B ?q9F ?q9N ?q9X ?q9T ?q9l ?q9i ?q9r ?q9n ?q9hk ?_ ?_; (case q9B => k_asm); (case q9F => k_asm); (case q9N => k_asm); (case q9X => k_asm); (case q9T => k_asm); (case q9l => exact led_list (by k_asm) (by k_mem)); (case q9i => assumption); (case q9r => assumption); (case q9n => omega); (case q9hk => exact rfl); k_whole); all_goals first | (intro lw9 vw9 cw9 ws9 h' tk' e9 iw9 F' N'; (have sz9 := worths_size e9); (have sz1 := sz9.1); (have sz2 := sz9.2); clear sz9; (try k_sweep)) | (intro h' tk' e9 F' N'; (try k_sweep))))
local macro_rules | `(tactic| walk_at "call ref") => `(tactic| (k_here; (with_reducible show wpAny _ _ (call (Value.ref 84) [Value.ref _]) _ _ _); k_dflt (refine' unhexed_w ?q9B ?q9F ?q9N ?q9X ?q9T ?q9XB ?q9TB ?q9l ?q9i ?q9r ?q9n ?q9hk ?_; (case q9B => k_asm); (case q9F => k_asm); (case q9N => k_asm); (case q9X => k_asm); (case q9T => k_asm); (case q9XB => k_asm); (case q9TB => k_asm); (case q9l => exact led_list (by k_asm) (by k_mem)); (case q9i => assumption); (case q9r => assumption); (case q9n => omega); (case q9hk => exact rfl); k_whole); intro l9 v9 c9 h' tk' i9 F' N'; (try k_sweep)))
local macro_rules | `(tactic| walk_at "call ref") => `(tactic| (k_here; (with_reducible show wpAny _ _ (call (Value.ref 91) [Value.ref _]) _ _ _); k_dflt (refine' quoted_w ?q9B ?q9F ?q9N ?q9X ?q9T ?q9XB ?q9TB ?q9l ?q9i ?q9r ?q9n ?q9hk ?_; (case q9B => k_asm); (case q9F => k_asm); (case q9N => k_asm); (case q9X => k_asm); (case q9T => k_asm); (case q9XB => k_asm); (case q9TB => k_asm); (case q9l => exact led_list (by k_asm) (by k_mem)); (case q9i => assumption); (case q9r => assumption); (case q9n => omega); (case q9hk => exact rfl); k_whole); intro r9 h' tk' f9 F' N'; (try k_sweep)))
local macro_rules | `(tactic| walk_at "call ref") => `(tactic| (k_here; (with_reducible show wpAny _ _ (call (Value.ref 105) [Value.ref _]) _ _ _); k_dflt (refine' spelled_w ?q9B ?q9F ?q9N ?q9X ?q9T ?q9l ?q9i ?q9r ?q9n ?q9f ?q9hk ?_; (case q9B => k_asm); (case q9F => k_asm); (case q9N => k_asm); (case q9X => k_asm); (case q9T => k_asm); (case q9l => exact led_list (by k_asm) (by k_mem)); (case q9i => assumption); (case q9r => assumption); (case q9n => omega); (case q9f => assumption); (case q9hk => exact rfl); k_whole); intro r9 h' tk' g9 f9 F' N'; (try k_sweep)))
local macro_rules | `(tactic| walk_at "call ref") => `(tactic| (k_here; (with_reducible show wpAny _ _ (call (Value.ref 98) [Value.ref _]) _ _ _); k_dflt (refine' refused_w ?q9B ?q9F ?q9N ?q9X ?q9T ?q9XB ?q9TB ?q9l ?q9i ?q9hk ?_; (case q9B => k_asm); (case q9F => k_asm); (case q9N => k_asm); (case q9X => k_asm); (case q9T => k_asm); (case q9XB => k_asm); (case q9TB => k_asm); (case q9l => exact led_list (by k_asm) (by k_mem)); (case q9i => assumption); (case q9hk => exact rfl); k_whole); intro h' tk' F' N'; (try k_sweep)))
local macro_rules | `(tactic| walk_at "call ref") => `(tactic| (k_here; (with_reducible show wpAny _ _ (call (Value.ref 56) [Value.ref _, Value.int _ _]) _ _ _); k_dflt (refine' number_w ?q9B ?q9F ?q9N ?q9X ?q9T ?q9l ?q9i ?q9r ?q9n ?q9b ?q9hk ?_; (case q9B => k_asm); (case q9F => k_asm); (case q9N => k_asm); (case q9X => k_asm); (case q9T => k_asm); (case q9l => exact led_list (by k_asm) (by k_mem)); (case q9i => assumption); (case q9r => assumption); (case q9n => omega); (case q9b => first | exact .inl rfl | exact .inr rfl); (case q9hk => exact rfl); k_whole); intro t9 h' tk' F' N'; (try k_sweep)))
local macro_rules | `(tactic| walk_at "call ref") => `(tactic| (k_here; (with_reducible show wpAny _ _ (call (Value.ref 28) [Value.bytes (byteArr [_]) _]) _ _ _); k_dflt (refine' quote_w ?q9B ?q9F ?q9N ?q9X ?q9T ?q9a ?q9b ?q9hk ?_; (case q9B => k_asm); (case q9F => k_asm); (case q9N => k_asm); (case q9X => k_asm); (case q9T => k_asm); (case q9a => assumption); (case q9b => assumption); (case q9hk => exact rfl); k_whole); intro t9 h' tk' F' N'; (try k_sweep)))
local macro_rules | `(tactic| walk_at "call ref") => `(tactic| (k_here; (with_reducible show wpAny _ _ (call (Value.ref 42) [Value.bytes (byteArr (hexOf _)) _]) _ _ _); k_dflt (refine' unhex_w ?q9B ?q9F ?q9N ?q9X ?q9T ?q9r ?q9n ?q9hk ?_; (case q9B => k_asm); (case q9F => k_asm); (case q9N => k_asm); (case q9X => k_asm); (case q9T => k_asm); (case q9r => assumption); (case q9n => omega); (case q9hk => exact rfl); k_whole); intro t9 h' tk' F' N'; (try k_sweep)))
local macro_rules | `(tactic| walk_at "call builtin:list.append") => `(tactic| (k_here; (show wpAny _ _ (call (Value.builtin "list.append") [Value.ref _, _]) _ _ _); k_dflt (refine' append_K ?q9k1 ?q9k2 ?q9k3 ?_ ?q9z; (case q9k1 => k_asm); (case q9k2 => k_asm); (case q9k3 => k_upd); (case q9z => first | exact Nat.le_trans (by assumption) (show 64 ≤ sizeLine by decide) | size_fits); k_whole); intro h' F' N'; (try k_sweep)))
local macro_rules | `(tactic| walk_at "subscriptTail") => `(tactic| (k_here; (with_reducible show wpAny _ _ (subscriptTail _ (Expr.Slice _ _ none _) (Value.bytes (byteArr (_ :: _)) _) (Value.ref _)) _ _ _); (with_reducible rename Fr _ _ _ _ => F'); (with_reducible rename News _ _ _ _ => N'); k_dflt (refine' cut_one (s := ⟨_, _, _, _, _⟩) F' N' ?q9b ?q9z ?_ ?q9s ?q9t; (case q9b => exact spell3_byt _); (case q9z => (simp only [List.length_cons, List.length_nil]; decide)); (case q9s => with_unfolding_all rfl); (case q9t => intro _; with_unfolding_all rfl); k_whole); intro h' t' k' F' N'; (try k_sweep)))
local macro_rules | `(tactic| walk_at "binaryOp Add bytes bytes") => `(tactic| ((with_reducible show wpAny _ _ (binaryOp Operator.Add (Value.bytes (byteArr _) _) (Value.bytes (byteArr _) _)) _ _ _); k_dflt (refine' add_by ?q9z ?_; (case q9z => (simp only [hex_len, List.length_cons, List.length_nil]; omega)); k_whole); intro t' k'))
local macro_rules | `(tactic| walk_at "inplaceOp Add bytes bytes") => `(tactic| ((with_reducible show wpAny _ _ (inplaceOp Operator.Add (Value.bytes (byteArr _) _) (Value.bytes (byteArr [_, _]) _)) _ _ _); k_dflt (refine' iadd_by ?q9z ?_; (case q9z => (simp only [hex_len]; omega)); k_whole); intro t' k'))
theorem law_holds : PySem.Challenge.rw_sh0081_01.Holds := hd81 (by
  k_go0
  (all_goals try k_fold)
  k_steps
  rename News _ _ _ _ => N9
  rename Fr _ _ _ _ => F9
  rename PiecesAre _ _ _ => hP9
  rename _ ∧ AllLt _ _ => l9
  have hnw := lt_ne l9.2
  refine main_loop rfl F9 N9 hP9 (by with_unfolding_all rfl) (by with_unfolding_all rfl) ?_ ?_
  · intro i a items c1 ns Wb cw ds tW u h tk own hn hma hia hba hWb ed hoff F9 N9
    have hLed := ledIs N9
    have hm2 := List.mem_append_left own hma
    have hfa := flat_at hn (by assumption)
    rw [← ed] at hfa
    have hlen : ns.length ≤ 63 := by omega
    k_steps
    all_goals (
      rename News _ _ _ _ => N9
      rename Fr _ _ _ _ => F9
      refine inner_go (tW₀ := tW) hLed hm2 hia hba hWb rfl F9 N9 ?_ ?_ ?_ ?_ ?_)
    all_goals first
      | (intro p hp; first | exact hp | exact .tail _ hp | exact .tail _ (.tail _ hp) | exact .tail _ (.tail _ (.tail _ hp)) | exact .tail _ (.tail _ (.tail _ (.tail _ hp))) | exact .tail _ (.tail _ (.tail _ (.tail _ (.tail _ hp)))))
      | (with_unfolding_all rfl)
      | skip
    rotate_left
    all_goals first
      | (intro Wb' cw' tW' u' h' tk' hWb' F9 N9
         k_steps
         exact main_end hn ed hWb' hoff (by assumption) (by assumption) (by with_unfolding_all rfl) (by with_unfolding_all rfl))
      | skip
    all_goals (
      intro j n' t' Wb' cw' es tW' u' h' tk' own' hn0 hn1 hj hes hes1 hWb' hoff' F9 N9
      obtain ⟨hwz, hez⟩ := wb_size hWb' hes hfa
      have hWt := own_ne hoff' (.head _) (own_ne hoff (.head _) hnw)
      k_steps)
    all_goals exact inner_end hes1 hWb' hm2 hoff' (by assumption) (by assumption) (by intro p hp; first | exact hp | exact .tail _ hp | exact .tail _ (.tail _ hp)) (by with_unfolding_all rfl) (by with_unfolding_all rfl)
  · intro Wb cw ds tW u h tk hWb ed F9 N9
    have hbd : Byt ds := ed ▸ flat_byt hP9
    have hld : ds.length ≤ 63 := by rw [ed]; assumption
    k_steps)
end Mine
theorem PySem.Challenge.cw_sh0081_01_holds : PySem.Challenge.rw_sh0081_01.Holds :=
  Mine.law_holds
