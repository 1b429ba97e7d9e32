import PyProof.Rows.All
import Wide.All
import OpenK.AllK
import Wide.FinOn
import Lean
import PySem.Challenge.RW_sc0117_01
open PySem PySem.W PyProof.Rows PySem.Calls
set_option Elab.async false
set_option maxRecDepth 100000
set_option maxHeartbeats 8000000

namespace Mine
def boundM (id : String) (self : Value) : Obj := { cls := .type "builtin_function_or_method", data := .fields #[.builtin id, self] }
theorem slot_md_get : Slot "method_descriptor" "__get__" "method_descriptor.__get__" :=
  .of (owner := "method_descriptor") (n := "__get__") (by rw [typeLookup_type, builtinLookup_eq_fast]; kernel_rfl) (by decide +kernel) (by decide +kernel) (by decide +kernel)
    (by first | exact .inl (by decide +kernel) | exact .inr (by decide +kernel)) (by rw [isSubtype_type]; kernel_rfl)
theorem md_noset : typeLookup (.type "method_descriptor") "__set__" = pure none := by rw [typeLookup_type, builtinLookup_eq_fast]; kernel_rfl
theorem md_nodel : typeLookup (.type "method_descriptor") "__delete__" = pure none := by rw [typeLookup_type, builtinLookup_eq_fast]; kernel_rfl
theorem entry_md_get : entryFor table "method_descriptor.__get__" = some Builtin.«method_descriptor.__get__» := entryFor_of_tree (by kernel_rfl)
theorem args_md_get (a b c : Value) : argsOk "method_descriptor.__get__" ⟨[a, b, c], []⟩ := by unfold argsOk; kernel_rfl
theorem lk_bytes_sw : typeLookup (.type "bytes") "startswith" = pure (some (.builtin "bytes.startswith")) := by rw [typeLookup_type, builtinLookup_eq_fast]; kernel_rfl
theorem lk_ba_sw : typeLookup (.type "bytearray") "startswith" = pure (some (.builtin "bytearray.startswith")) := by rw [typeLookup_type, builtinLookup_eq_fast]; kernel_rfl
theorem type_bytes_sw : typeOf (.builtin "bytes.startswith") = pure (.type "method_descriptor") := by show builtinType _ = _; rw [builtinType_eq_fast]; kernel_rfl
theorem type_ba_sw : typeOf (.builtin "bytearray.startswith") = pure (.type "method_descriptor") := by show builtinType _ = _; rw [builtinType_eq_fast]; kernel_rfl
theorem owner_bytes_sw : (kfb_private% "ownerAndName") "bytes.startswith" = ("bytes", "startswith") := by first | decide +kernel | kernel_rfl
theorem owner_ba_sw : (kfb_private% "ownerAndName") "bytearray.startswith" = ("bytearray", "startswith") := by first | decide +kernel | kernel_rfl
theorem told_bytes_sw : Manifest.toldItsClass.contains "bytes.startswith" = false := by decide +kernel
theorem told_ba_sw : Manifest.toldItsClass.contains "bytearray.startswith" = false := by decide +kernel
theorem sub_bytes_bytes : isSubtype (.type "bytes") (.type "bytes") = pure true := by rw [isSubtype_type]; kernel_rfl
theorem sub_ba_ba : isSubtype (.type "bytearray") (.type "bytearray") = pure true := by rw [isSubtype_type]; kernel_rfl
theorem slot_ba_ga : Slot "bytearray" "__getattribute__" "bytearray.__getattribute__" :=
  .of (owner := "bytearray") (n := "__getattribute__") (by rw [typeLookup_type, builtinLookup_eq_fast]; kernel_rfl) (by decide +kernel) (by decide +kernel) (by decide +kernel)
    (by first | exact .inl (by decide +kernel) | exact .inr (by decide +kernel)) (by rw [isSubtype_type]; kernel_rfl)
theorem args_ba_ga (a b : Value) : argsOk "bytearray.__getattribute__" ⟨[a, b], []⟩ := by unfold argsOk; kernel_rfl
theorem entry_ba_ga : entryFor table "bytearray.__getattribute__" = some Builtin.«object.__getattribute__» :=
  entryFor_alias (id' := "object.__getattribute__") (by kernel_rfl) (by first | rfl | decide +kernel) (by decide +kernel) (by kernel_rfl)

section
variable {prog : Program} {w : World} {M : Model} {A : Around} {E : Value → Shared → Prop} {s : Shared}

theorem md_get_run {id T : String} {self : Value} {P : Fin → Shared → Prop} (hT : s.TypeIs self T) (hsub : isSubtype (.type T) (.type T) = pure true)
    (ho : (kfb_private% "ownerAndName") id = (T, "startswith")) (htold : Manifest.toldItsClass.contains id = false) (hnn : self ≠ .none)
    (h : P (.done (.ret (.ref s.heap.objs.size))) { s with heap := s.heap.push (boundM id self) }) :
    wpAny M A (Builtin.«method_descriptor.__get__» ⟨[.builtin id, self, .type T], []⟩) P E s := by
  unfold Builtin.«method_descriptor.__get__»
  refine wpAny_bind (wpAny_of_eq (a := (.builtin id, some self, some (.type T))) ?_ ?_)
  · cases self <;> first | exact absurd rfl hnn | rfl
  dsimp only
  rw [htold]
  refine wpAny_ite_false rfl ?_
  show wpAny M A ((kfb_private% "checkInstance") (.builtin id) self >>= fun _ => newFields "builtin_function_or_method" [.builtin id, self] >>= fun r => ret r) P E s
  refine wpAny_bind ?_
  show wpAny M A ((kfb_private% "nameAndClass") (.builtin id) >>= fun __x => _) _ E s
  refine wpAny_bind (wpAny_of_eq (a := ((Str.ofString "startswith"), .type T)) ?_ ?_)
  · show pure ((Str.ofString ((kfb_private% "ownerAndName") id).2), Value.type ((kfb_private% "ownerAndName") id).1) = _
    rw [ho]
  refine wpAny_bind (wpAny_isInstance hT hsub ?_)
  refine wpAny_ite_false rfl ?_
  refine wpAny_pure ?_
  exact wpAny_bind (wpAny_newObj_type (wpAny_pure h))
end
end Mine

namespace Mine
section
variable {prog : Program} {w : World} {M : Model} {A : Around} {E : Value → Shared → Prop} {s : Shared}

theorem sw_get_bytes {b : Array UInt8} {u : Tok} {R : Result → Shared → Prop} (hq : R (.ok (.ret (.ref s.heap.objs.size))) { s with heap := s.heap.push (boundM "bytes.startswith" (.bytes b u)) }) :
    codeAny (model prog w) A (.call (.builtin "method_descriptor.__get__") ⟨[.builtin "bytes.startswith", .bytes b u, .type "bytes"], []⟩) R s := by
  have hT5 : s.TypeIs (.builtin "bytes.startswith") "method_descriptor" := type_bytes_sw
  refine codeAny_call_builtin slot_md_get.plain entry_md_get (slot_md_get.check _ _ _ _ _ _ _ _ hT5 (args_md_get _ _ _) ?_)
  exact md_get_run (M := model prog w) (s := s) (id := "bytes.startswith") (T := "bytes") (self := .bytes b u) (typeIs_bytes s b u) sub_bytes_bytes owner_bytes_sw told_bytes_sw (by intro e; cases e) hq

theorem sw_entry_bytes {b : Array UInt8} {u tk : Tok} {Q : PySem.Fin → Shared → Prop} (hq : Q (.done (.ret (.ref s.heap.objs.size))) { s with heap := s.heap.push (boundM "bytes.startswith" (.bytes b u)) }) :
    wpAny (model prog w) A (Builtin.«object.__getattribute__» ⟨[.bytes b u, .str "startswith" tk], []⟩) Q E s := by
  have hT : s.TypeIs (.bytes b u) "bytes" := typeIs_bytes s b u
  have hT5 : s.TypeIs (.builtin "bytes.startswith") "method_descriptor" := type_bytes_sw
  have f4 := lk_bytes_sw
  have f5 := type_bytes_sw
  have f6 := slot_md_get.lookup
  have f7 := md_noset
  have f8 := md_nodel
  repeat (any_goals (first | assumption | wp_step))
  refine sw_get_bytes ?_
  repeat (any_goals (first | assumption | wp_step))

theorem sw_attr_bytes {b : Array UInt8} {u : Tok} {Q : Value → Shared → Prop} (hq : Q (.ref s.heap.objs.size) { s with heap := s.heap.push (boundM "bytes.startswith" (.bytes b u)), toks := s.toks + 1 }) :
    wpAny (model prog w) A (getAttr (.bytes b u) (Str.ofString "startswith") true) Q E s := by
  have hT : ({ s with toks := s.toks + 1 } : Shared).TypeIs (.bytes b u) "bytes" := typeIs_bytes _ b u
  have f2 := F.slot_bytes_getattribute.lookup
  have f3 := F.slot_bytes_getattribute.bind (.bytes b u)
  unfold getAttr
  refine wpAny_bind (wpAny_mkText ?_)
  repeat (any_goals (first | assumption | wp_step))
  refine codeAny_call_builtin F.slot_bytes_getattribute.plain F.entry_bytes_ga (F.slot_bytes_getattribute.check _ _ _ _ _ _ _ _ hT (F.args_bytes_getattribute_2 _ _) (sw_entry_bytes ?_))
  repeat (any_goals (first | assumption | wp_step))

abbrev baObj (b : Array UInt8) : Obj := { cls := .type "bytearray", data := .bytearray b }
theorem typeIs_ba {a : Addr} {b : Array UInt8} (ho : s.heap.get? a = some (baObj b)) : s.TypeIs (.ref a) "bytearray" := ⟨_, ho, rfl⟩

theorem sw_get_ba {a : Addr} {b : Array UInt8} {R : Result → Shared → Prop} (ho : s.heap.get? a = some (baObj b)) (hq : R (.ok (.ret (.ref s.heap.objs.size))) { s with heap := s.heap.push (boundM "bytearray.startswith" (.ref a)) }) :
    codeAny (model prog w) A (.call (.builtin "method_descriptor.__get__") ⟨[.builtin "bytearray.startswith", .ref a, .type "bytearray"], []⟩) R s := by
  have hT5 : s.TypeIs (.builtin "bytearray.startswith") "method_descriptor" := type_ba_sw
  refine codeAny_call_builtin slot_md_get.plain entry_md_get (slot_md_get.check _ _ _ _ _ _ _ _ hT5 (args_md_get _ _ _) ?_)
  exact md_get_run (M := model prog w) (s := s) (id := "bytearray.startswith") (T := "bytearray") (self := .ref a) (typeIs_ba ho) sub_ba_ba owner_ba_sw told_ba_sw (by intro e; cases e) hq

theorem sw_entry_ba {a : Addr} {b : Array UInt8} {tk : Tok} {Q : PySem.Fin → Shared → Prop} (ho : s.heap.get? a = some (baObj b)) (hq : Q (.done (.ret (.ref s.heap.objs.size))) { s with heap := s.heap.push (boundM "bytearray.startswith" (.ref a)) }) :
    wpAny (model prog w) A (Builtin.«object.__getattribute__» ⟨[.ref a, .str "startswith" tk], []⟩) Q E s := by
  have hT : s.TypeIs (.ref a) "bytearray" := typeIs_ba ho
  have hT5 : s.TypeIs (.builtin "bytearray.startswith") "method_descriptor" := type_ba_sw
  have f4 := lk_ba_sw
  have f5 := type_ba_sw
  have f6 := slot_md_get.lookup
  have f7 := md_noset
  have f8 := md_nodel
  repeat (any_goals (first | assumption | wp_step))
  refine sw_get_ba ho ?_
  repeat (any_goals (first | assumption | wp_step))

theorem sw_attr_ba {a : Addr} {b : Array UInt8} {Q : Value → Shared → Prop} (ho : s.heap.get? a = some (baObj b)) (hq : Q (.ref s.heap.objs.size) { s with heap := s.heap.push (boundM "bytearray.startswith" (.ref a)), toks := s.toks + 1 }) :
    wpAny (model prog w) A (getAttr (.ref a) (Str.ofString "startswith") true) Q E s := by
  have hT : ({ s with toks := s.toks + 1 } : Shared).TypeIs (.ref a) "bytearray" := typeIs_ba (s := { s with toks := s.toks + 1 }) ho
  have f2 := slot_ba_ga.lookup
  have f3 := slot_ba_ga.bind (.ref a)
  unfold getAttr
  refine wpAny_bind (wpAny_mkText ?_)
  repeat (any_goals (first | assumption | wp_step))
  refine codeAny_call_builtin slot_ba_ga.plain entry_ba_ga (slot_ba_ga.check _ _ _ _ _ _ _ _ hT (args_ba_ga _ _) (sw_entry_ba (s := { s with toks := s.toks + 1 }) ho ?_))
  repeat (any_goals (first | assumption | wp_step))
end
end Mine

namespace Mine
theorem lk_bytes_buf : typeLookup (.type "bytes") "__buffer__" = pure (some (.builtin "bytes.__buffer__")) := by rw [typeLookup_type, builtinLookup_eq_fast]; kernel_rfl
theorem lk_bytes_rel : typeLookup (.type "bytes") "__release_buffer__" = pure none := by rw [typeLookup_type, builtinLookup_eq_fast]; kernel_rfl
theorem so_bytes_buf (b : Array UInt8) (t : Tok) : specialOf (.bytes b t) "__buffer__" = pure (some (.builtin "bytes.__buffer__")) := lk_bytes_buf
theorem so_bytes_rel (b : Array UInt8) (t : Tok) : specialOf (.bytes b t) "__release_buffer__" = pure none := lk_bytes_rel
theorem own_bytes_buf (b : Array UInt8) (t : Tok) : Builtin.Bytes.slotIsOwn (.bytes b t) "__buffer__" = pure true := by
  unfold Builtin.Bytes.slotIsOwn
  rw [so_bytes_buf]
  show (if (!("bytes.__buffer__".endsWith ("." ++ "__buffer__"))) = true then _ else isInstance (.bytes b t) (.type ("bytes.__buffer__".dropRight ("__buffer__".length + 1)))) = _
  rw [show ("bytes.__buffer__".dropRight ("__buffer__".length + 1)) = "bytes" by decide +kernel, if_neg (by decide +kernel)]
  exact sub_bytes_bytes
theorem own_bytes_rel (b : Array UInt8) (t : Tok) : Builtin.Bytes.ownRelease (.bytes b t) = pure false := by
  unfold Builtin.Bytes.ownRelease Builtin.Bytes.slotIsOwn
  rw [so_bytes_rel]
  rfl
theorem buf_bytes (id : String) (b : Array UInt8) (t : Tok) : Builtin.Bytes.buffer? id (.bytes b t) = pure (some b) := by
  unfold Builtin.Bytes.buffer?
  rw [so_bytes_buf, own_bytes_buf, own_bytes_rel]
  rfl
theorem like_bytes (id : String) (b : Array UInt8) (t : Tok) : Builtin.Bytes.bytesLike id (.bytes b t) = pure b := by
  unfold Builtin.Bytes.bytesLike
  rw [buf_bytes]
  rfl
theorem sub_tuple_tuple : isSubtype (.type "tuple") (.type "tuple") = pure true := by rw [isSubtype_type]; kernel_rfl
theorem sub_bytes_tuple : isSubtype (.type "bytes") (.type "tuple") = pure false := by rw [isSubtype_type]; kernel_rfl

def starts (l p : List UInt8) : Bool := l.take p.length == p

theorem fits_eq (l p : List UInt8) : (if (Builtin.Bytes.window l.toArray.size none none).2 - (Builtin.Bytes.window l.toArray.size none none).1 < (p.toArray.size : Int) then false
    else l.toArray.extract (Builtin.Bytes.window l.toArray.size none none).1.toNat ((Builtin.Bytes.window l.toArray.size none none).1.toNat + p.toArray.size) == p.toArray) = starts l p := by
  unfold starts Builtin.Bytes.window
  simp only [Option.getD_none, List.size_toArray]
  have h0 : (min (l.length : Int) (if (l.length : Int) < 0 then max 0 ((l.length : Int) + (l.length : Int)) else (l.length : Int))) = (l.length : Int) := by
    rw [if_neg (by omega)]; omega
  rw [h0]
  simp only [Int.lt_irrefl, if_false, Int.sub_zero, Int.toNat_zero, Nat.zero_add]
  by_cases h : (l.length : Int) < (p.length : Int)
  · rw [if_pos h]
    symm
    rw [beq_eq_false_iff_ne]
    intro e
    have := congrArg List.length e
    rw [List.length_take] at this
    omega
  · rw [if_neg h]
    simp [List.extract_toArray, List.extract]

section
variable {prog : Program} {w : World} {M : Model} {A : Around} {E : Value → Shared → Prop} {s : Shared}
abbrev tupObj (vs : List Value) : Obj := { cls := .type "tuple", data := .seq vs.toArray }

theorem sw_run_tuple {k : Builtin.Bytes.Kind} {self : Value} {l p q : List UInt8} {a : Addr} {t1 t2 : Tok} {P : PySem.Fin → Shared → Prop}
    (hpay : ∀ {Q : Array UInt8 → Shared → Prop}, Q l.toArray s → wpAny M A (Builtin.Bytes.payload self) Q E s)
    (ha : s.heap.get? a = some (tupObj [.bytes p.toArray t1, .bytes q.toArray t2]))
    (h : P (.done (.ret (.bool (starts l p || starts l q)))) s) :
    wpAny M A (Builtin.Bytes.tailMatchM k "startswith" false ⟨[self, .ref a], []⟩) P E s := by
  unfold Builtin.Bytes.tailMatchM
  dsimp only
  refine wpAny_bind (wpAny_of_eq (a := (self, [.ref a])) rfl ?_)
  dsimp only
  refine wpAny_bind (wpAny_of_eq (a := none) rfl ?_)
  refine wpAny_bind (wpAny_of_eq (a := none) rfl ?_)
  refine wpAny_bind (hpay ?_)
  have hT : s.TypeIs (.ref a) "tuple" := ⟨_, ha, rfl⟩
  refine wpAny_bind (wpAny_isInstance hT sub_tuple_tuple ?_)
  refine wpAny_ite_true rfl ?_
  refine wpAny_bind ?_
  show wpAny M A (load a >>= _) _ E s
  refine wpAny_bind (wpAny_load ha (wpAny_pure ?_))
  dsimp only
  refine wpAny_bind ?_
  simp only [List.forIn_toArray, List.forIn_cons, List.forIn_nil, like_bytes, Bool.false_eq_true, if_false, fits_eq]
  refine wpAny_bind (wpAny_bind (wpAny_pure ?_))
  rw [fits_eq]
  cases h1 : starts l p with
  | true =>
    rw [h1] at h
    exact wpAny_ite_true rfl (wpAny_bind (wpAny_pure (wpAny_pure (wpAny_pure (wpAny_pure h)))))
  | false =>
    rw [h1] at h
    refine wpAny_ite_false rfl (wpAny_pure ?_)
    dsimp only
    refine wpAny_bind (wpAny_bind (wpAny_pure ?_))
    rw [fits_eq]
    cases h2 : starts l q with
    | true =>
      rw [h2] at h
      exact wpAny_ite_true rfl (wpAny_bind (wpAny_pure (wpAny_pure (wpAny_pure (wpAny_pure h)))))
    | false =>
      rw [h2] at h
      exact wpAny_ite_false rfl (wpAny_pure (wpAny_pure (wpAny_pure h)))

theorem sw_run_one {k : Builtin.Bytes.Kind} {self : Value} {l p : List UInt8} {t1 : Tok} {P : PySem.Fin → Shared → Prop}
    (hpay : ∀ {Q : Array UInt8 → Shared → Prop}, Q l.toArray s → wpAny M A (Builtin.Bytes.payload self) Q E s)
    (h : P (.done (.ret (.bool (starts l p)))) s) :
    wpAny M A (Builtin.Bytes.tailMatchM k "startswith" false ⟨[self, .bytes p.toArray t1], []⟩) P E s := by
  unfold Builtin.Bytes.tailMatchM
  dsimp only
  refine wpAny_bind (wpAny_of_eq (a := (self, [.bytes p.toArray t1])) rfl ?_)
  dsimp only
  refine wpAny_bind (wpAny_of_eq (a := none) rfl ?_)
  refine wpAny_bind (wpAny_of_eq (a := none) rfl ?_)
  refine wpAny_bind (hpay ?_)
  refine wpAny_bind (wpAny_isInstance (typeIs_bytes s _ _) sub_bytes_tuple ?_)
  refine wpAny_ite_false rfl ?_
  refine wpAny_bind (wpAny_of_eq (buf_bytes _ _ _) ?_)
  dsimp only
  simp only [Bool.false_eq_true, if_false]
  rw [fits_eq]
  exact wpAny_pure h
end
end Mine

namespace Mine
theorem check_bytes_sw {b : Array UInt8} {t : Tok} {y : Value} : checkBoundCall "bytes.startswith" ⟨[.bytes b t, y], []⟩ = pure () := by kernel_rfl
theorem owner_ba : Manifest.owners.lookup (String.ofList ['y', 'a', 'r', 'r', 'a', 'e', 't', 'y', 'b'].reverse) = some Manifest.sig_bytearray := by kernel_rfl
def sigBa : Manifest.Signature := ⟨.positional, "bytearray.startswith", "startswith", .self, [⟨"prefix", .posOnly, true⟩, ⟨"start", .posOnly, false⟩, ⟨"end", .posOnly, false⟩]⟩
theorem sig_ba_sw : Manifest.signature? "bytearray.startswith" = some sigBa := by
  rw [signature?_of (id := "bytearray.startswith") (n := ['h', 't', 'i', 'w', 's', 't', 'r', 'a', 't', 's']) (o := ['y', 'a', 'r', 'r', 'a', 'e', 't', 'y', 'b']) (by kernel_rfl) owner_ba]; kernel_rfl
theorem kind_ba_sw : builtinKind "bytearray.startswith" = some .method := by first | kernel_rfl | decide +kernel
theorem va_ba_sw : Manifest.varargsMethods.contains "bytearray.startswith" = false := by decide +kernel
theorem sub_ba_module : isSubtype (.type "bytearray") (.type "module") = pure false := by rw [isSubtype_type]; kernel_rfl
theorem last_ba : Bind.lastOf "bytearray" = "bytearray" := by decide +kernel
theorem last_ba_sw : Bind.lastOf "bytearray.startswith" = "startswith" := by decide +kernel
theorem cargs_ba {x y : Value} : Bind.checkArgs "bytearray.startswith" { sigBa with full := "bytearray.startswith" } ⟨[x, y], []⟩ = pure () := by kernel_rfl
theorem check_ba_sw {M : Model} {A : Around} {E : Value → Shared → Prop} {s : Shared} {a : Addr} {b : Array UInt8} {y : Value} {Q : Unit → Shared → Prop} (ho : s.heap.get? a = some (baObj b)) (h : Q () s) :
    wpAny M A (checkBoundCall "bytearray.startswith" ⟨[.ref a, y], []⟩) Q E s := by
  unfold checkBoundCall
  rw [sig_ba_sw, kind_ba_sw]
  dsimp only
  refine wpAny_ite_false (by decide +kernel) ?_
  have hT : s.TypeIs (.ref a) "bytearray" := typeIs_ba ho
  refine wpAny_bind (wpAny_isInstance hT sub_ba_module ?_)
  rw [va_ba_sw]
  refine wpAny_ite_false rfl ?_
  refine wpAny_bind ?_
  show wpAny _ _ (load a >>= _) _ _ _
  refine wpAny_bind (wpAny_load ho ?_)
  refine wpAny_pure ?_
  refine wpAny_ite_false rfl ?_
  refine wpAny_bind (wpAny_typeOf hT ?_)
  dsimp only
  rw [last_ba, last_ba_sw]
  exact wpAny_of_eq cargs_ba h
theorem entry_ba_sw : entryFor table "bytearray.startswith" = some Builtin.«bytearray.startswith» := entryFor_of_tree (by kernel_rfl)
theorem entry_bytes_sw : entryFor table "bytes.startswith" = some Builtin.«bytes.startswith» := entryFor_of_tree (by kernel_rfl)
theorem quiet_bytes_sw {as : Args} : (Code.builtin "bytes.startswith" as).quiet = true := Code.quiet_builtin _ (by decide +kernel)
theorem quiet_ba_sw {as : Args} : (Code.builtin "bytearray.startswith" as).quiet = true := Code.quiet_builtin _ (by decide +kernel)
section
variable {prog : Program} {w : World} {M : Model} {A : Around} {E : Value → Shared → Prop} {s : Shared} {h₀ : Heap} {L : Addr} {m : PySem.Str → Option Value} {news : List (Addr × Obj)}

def BoundAt (x : Addr) (id : String) (self : Value) (h : Heap) : Prop := h.get? x = some (boundM id self)
theorem boundAt_of {x : Addr} {id : String} {self : Value} {h : Heap} (N : News h₀ L h news) (hm : (x, boundM id self) ∈ news) : BoundAt x id self h := N.get hm

theorem callWith_b {pos : Pos} {u : Addr} {id : String} {self : Value} {first : List Value} {args : List (Bool × Sem Value)} {Q : Value → Shared → Prop} (hplain : args.any (·.1) = false)
    (h : wpAny M A (evalArgs (.ref u) true args []) (fun x s₁ => BoundAt u id self s₁.heap ∧ wpAny M A (call (.ref u) (first ++ x.pos) x.kw) Q E s₁) E s) : wpAny M A (callWith pos (.ref u) first args []) Q E s := by
  unfold callWith
  refine wpAny_bind (wpAny_holding (wpAny_mono h (fun x s₁ h₁ => wpAny_bind (wpAny_standAt ?_)) fun _ _ x => x))
  obtain ⟨ho, hcall⟩ := h₁
  simp only [hplain, List.any_nil, Bool.or_false]
  refine wpAny_bind (m := keeperOf (.ref u)) ?_
  unfold keeperOf
  refine wpAny_bind (wpAny_load ho ?_)
  simp only [boundM, show (Value.type "builtin_function_or_method" != Value.type "method") = true by decide, show (Value.type "builtin_function_or_method" == Value.type "builtin_function_or_method" || Value.type "builtin_function_or_method" == Value.type "method-wrapper") = true by decide, if_true]
  refine wpAny_pure ?_
  exact wpAny_bind (wpAny_mono hcall (fun r s₂ hr => wpAny_bind (wpAny_holding (wpAny_point (wpAny_pure hr)))) fun _ _ x => x)

theorem callWith_bound1 {pos : Pos} {u : Addr} {id : String} {self : Value} {first : List Value} {env : Env} {e : PySem.Expr} {rest : List PySem.Expr} {Q : Value → Shared → Prop} (_N : News h₀ L s.heap news) (_hm : (u, boundM id self) ∈ news)
    (h : wpAny M A (spliced (backTo pos (starEach (e :: rest) env))) (fun vs s₁ => BoundAt u id self s₁.heap ∧ wpAny M A (call (.ref u) (first ++ vs)) Q E s₁) E s)
    (he : starEach (e :: rest) env = (false, eval e env) :: starEach rest env := by rfl) (hplain : (backTo pos (starEach rest env)).any (·.1) = false := by rfl) :
    wpAny M A (callWith pos (.ref u) first (backTo pos (starEach (e :: rest) env)) []) Q E s := by
  rw [he] at h ⊢
  refine callWith_b (id := id) (self := self) (by show (false || (backTo pos (starEach rest env)).any (·.1)) = false; rw [hplain]; rfl) ?_
  exact evalArgs_plain h

theorem call_bound {x : Addr} {id : String} {self v r : Value} {b : Builtin} {Q : Value → Shared → Prop} (ho : s.heap.get? x = some (boundM id self))
    (hc : ∀ {Q' : Unit → Shared → Prop} {E' : Value → Shared → Prop} {A' : Around}, Q' () s → wpAny (model prog w) A' (checkBoundCall id ⟨[self, v], []⟩) Q' E' s) (he : entryFor table id = some b) (hq : (Code.builtin id ⟨[self, v], []⟩).quiet = true)
    (tree : ∀ {P : PySem.Fin → Shared → Prop} {E' : Value → Shared → Prop} {A' : Around}, P (.done (.ret r)) s → wpAny (model prog w) A' (b ⟨[self, v], []⟩) P E' s)
    (h : Q r s) : wpAny (model prog w) A (call (.ref x) [v]) Q E s := by
  refine wpAny_call (codeAny_of_tree ?_)
  show wpAny _ A.in1 (callAny (.ref x) ⟨[v], []⟩) _ _ s
  simp only [callAny]
  refine wpAny_bind (wpAny_load ho ?_)
  simp only [boundM, show (Value.type "builtin_function_or_method" == Value.type "method" || Value.type "builtin_function_or_method" == Value.type "builtin_function_or_method" || Value.type "builtin_function_or_method" == Value.type "method-wrapper") = true by decide, if_true]
  refine wpAny_ite_true (by first | rfl | decide +kernel) ?_
  refine wpAny_bind (hc ?_)
  refine wpAny_bind (wpAny_pure (wpAny_pure ?_))
  exact ⟨hq, codeAny_builtin he (tree h)⟩

theorem pay_bytes {l : List UInt8} {t : Tok} {Q : Array UInt8 → Shared → Prop} (h : Q l.toArray s) : wpAny M A (Builtin.Bytes.payload (.bytes l.toArray t)) Q E s := wpAny_of_eq (a := l.toArray) rfl h
theorem pay_ba {l : List UInt8} {a : Addr} {Q : Array UInt8 → Shared → Prop} (ho : s.heap.get? a = some (baObj l.toArray)) (h : Q l.toArray s) : wpAny M A (Builtin.Bytes.payload (.ref a)) Q E s := by
  unfold Builtin.Bytes.payload Builtin.Bytes.payload?
  exact wpAny_bind (wpAny_bind (wpAny_load ho (wpAny_pure (wpAny_pure h))))

theorem sw_bytes2 {x : Addr} {l p q : List UInt8} {t t1 t2 : Tok} {a : Addr} {Q : Value → Shared → Prop} (N : News h₀ L s.heap news) (hm : (x, boundM "bytes.startswith" (.bytes l.toArray t)) ∈ news)
    (ha : (a, tupObj [.bytes p.toArray t1, .bytes q.toArray t2]) ∈ news) (h : Q (.bool (starts l p || starts l q)) s) : wpAny (model prog w) A (call (.ref x) [.ref a]) Q E s :=
  call_bound (N.get hm) (fun z => wpAny_of_eq check_bytes_sw z) entry_bytes_sw quiet_bytes_sw (fun z => sw_run_tuple (fun {_} y => pay_bytes y) (N.get ha) z) h
theorem sw_bytes1 {x : Addr} {l p : List UInt8} {t t1 : Tok} {Q : Value → Shared → Prop} (N : News h₀ L s.heap news) (hm : (x, boundM "bytes.startswith" (.bytes l.toArray t)) ∈ news)
    (h : Q (.bool (starts l p)) s) : wpAny (model prog w) A (call (.ref x) [.bytes p.toArray t1]) Q E s :=
  call_bound (N.get hm) (fun z => wpAny_of_eq check_bytes_sw z) entry_bytes_sw quiet_bytes_sw (fun z => sw_run_one (fun {_} y => pay_bytes y) z) h
theorem sw_ba2 {x : Addr} {l p q : List UInt8} {t1 t2 : Tok} {a c : Addr} {Q : Value → Shared → Prop} (N : News h₀ L s.heap news) (hm : (x, boundM "bytearray.startswith" (.ref c)) ∈ news) (hc : s.heap.get? c = some (baObj l.toArray))
    (ha : (a, tupObj [.bytes p.toArray t1, .bytes q.toArray t2]) ∈ news) (h : Q (.bool (starts l p || starts l q)) s) : wpAny (model prog w) A (call (.ref x) [.ref a]) Q E s :=
  call_bound (N.get hm) (fun z => check_ba_sw hc z) entry_ba_sw quiet_ba_sw (fun z => sw_run_tuple (fun {_} y => pay_ba hc y) (N.get ha) z) h
theorem sw_ba1 {x : Addr} {l p : List UInt8} {t1 : Tok} {c : Addr} {Q : Value → Shared → Prop} (N : News h₀ L s.heap news) (hm : (x, boundM "bytearray.startswith" (.ref c)) ∈ news) (hc : s.heap.get? c = some (baObj l.toArray))
    (h : Q (.bool (starts l p)) s) : wpAny (model prog w) A (call (.ref x) [.bytes p.toArray t1]) Q E s :=
  call_bound (N.get hm) (fun z => check_ba_sw hc z) entry_ba_sw quiet_ba_sw (fun z => sw_run_one (fun {_} y => pay_ba hc y) z) h
end
end Mine

namespace Mine
theorem slot_ba_len : Slot "bytearray" "__len__" "bytearray.__len__" :=
  .of (owner := "bytearray") (n := "__len__") (by rw [typeLookup_type, builtinLookup_eq_fast]; kernel_rfl) (by decide +kernel) (by decide +kernel) (by decide +kernel)
    (by first | exact .inl (by decide +kernel) | exact .inr (by decide +kernel)) (by rw [isSubtype_type]; kernel_rfl)
theorem entry_ba_len : entryFor table "bytearray.__len__" = some Builtin.«bytearray.__len__» := entryFor_of_tree (by kernel_rfl)
theorem args_ba_len (a : Value) : argsOk "bytearray.__len__" ⟨[a], []⟩ := by
  unfold argsOk; rw [signature?_of (id := "bytearray.__len__") (n := ['_', '_', 'n', 'e', 'l', '_', '_']) (o := ['y', 'a', 'r', 'r', 'a', 'e', 't', 'y', 'b']) (by kernel_rfl) owner_ba]; kernel_rfl
theorem slot_ba_getitem : Slot "bytearray" "__getitem__" "bytearray.__getitem__" :=
  .of (owner := "bytearray") (n := "__getitem__") (by rw [typeLookup_type, builtinLookup_eq_fast]; kernel_rfl) (by decide +kernel) (by decide +kernel) (by decide +kernel)
    (by first | exact .inl (by decide +kernel) | exact .inr (by decide +kernel)) (by rw [isSubtype_type]; kernel_rfl)
theorem entry_ba_getitem : entryFor table "bytearray.__getitem__" = some Builtin.«bytearray.__getitem__» := entryFor_of_tree (by kernel_rfl)
theorem args_ba_getitem (a b : Value) : argsOk "bytearray.__getitem__" ⟨[a, b], []⟩ := by
  unfold argsOk; rw [signature?_of (id := "bytearray.__getitem__") (n := ['_', '_', 'm', 'e', 't', 'i', 't', 'e', 'g', '_', '_']) (o := ['y', 'a', 'r', 'r', 'a', 'e', 't', 'y', 'b']) (by kernel_rfl) owner_ba]; kernel_rfl
section
variable {prog : Program} {w : World} {M : Model} {A : Around} {E : Value → Shared → Prop} {s : Shared}

theorem pay_ba_any {b : Array UInt8} {a : Addr} {Q : Array UInt8 → Shared → Prop} (ho : s.heap.get? a = some (baObj b)) (h : Q b s) : wpAny M A (Builtin.Bytes.payload (.ref a)) Q E s := by
  unfold Builtin.Bytes.payload Builtin.Bytes.payload?
  exact wpAny_bind (wpAny_bind (wpAny_load ho (wpAny_pure (wpAny_pure h))))

theorem len_ba {a : Addr} {b : Array UInt8} {Q : Value → Shared → Prop} (ho : s.heap.get? a = some (baObj b)) (hfit : b.size ≤ 1099511627776) (h : ∀ t k, Q (.int b.size t) { s with toks := k }) :
    wpAny (model prog w) A (call (.builtin "len") [.ref a]) Q E s := by
  have hT : s.TypeIs (.ref a) "bytearray" := typeIs_ba ho
  refine Calls.call_function_entry kind_len plain_len entry_len (args_len1 _) ?_
  unfold Builtin.«len»
  refine wpAny_bind (m := oneArg "len" _) (wpAny_pure ?_)
  refine wpAny_bind (m := callSpecial? (.ref a) (Str.ofString "__len__")) (wpAny_callSpecial?_slot (name := Str.ofString "__len__") hT slot_ba_len (wpAny_call_entry slot_ba_len hT entry_ba_len ?_ (args_ba_len _)))
  show wpAny _ _ (Builtin.Bytes.payload (.ref a) >>= fun b => retInt b.size) _ _ s
  refine wpAny_bind (pay_ba_any ho ?_)
  refine wpAny_bind (wpAny_mkInt (wpAny_pure ⟨_, rfl, ?_⟩))
  refine wpAny_bind (wpAny_holding (wpAny_pure ?_))
  refine wpAny_bind (wpAny_letGo ?_)
  show wpAny _ _ (if (b.size : Int) < 0 then _ else _) _ _ _
  rw [if_neg (by omega)]
  show wpAny _ _ (if (b.size : Int) ≥ 2 ^ 63 then _ else _) _ _ _
  rw [if_neg (by omega)]
  exact wpAny_bind (wpAny_mkInt (wpAny_pure ⟨_, rfl, h _ _⟩))

theorem item_ba {a : Addr} {l : List UInt8} {i : Int} {u : Tok} {Q : Value → Shared → Prop} (ho : s.heap.get? a = some (baObj l.toArray)) (hfit : l.length ≤ 1099511627776) (h0 : 0 ≤ i) (h1 : i < l.length)
    (h : ∀ t k, Q (.int (l.getD i.toNat 0).toNat t) { s with toks := k }) : wpAny (model prog w) A (getItem (.ref a) (.int i u)) Q E s := by
  have hT : s.TypeIs (.ref a) "bytearray" := typeIs_ba ho
  refine wpAny_getItem_slot hT (by decide) slot_ba_getitem (wpAny_call_entry slot_ba_getitem hT entry_ba_getitem ?_ (args_ba_getitem _ _))
  show wpAny _ _ (Builtin.Bytes.subscript? (.int i u) >>= fun r => _) _ _ s
  refine wpAny_bind ?_
  unfold Builtin.Bytes.subscript?
  refine wpAny_bind (wpAny_specialOf (typeIs_int s i u) F.slot_int_index.lookup ?_)
  show wpAny _ _ (if (!Builtin.Bytes.fitsIndex i) = true then _ else pure (some i)) _ _ s
  rw [show Builtin.Bytes.fitsIndex i = true by simp only [Builtin.Bytes.fitsIndex, Bool.and_eq_true, decide_eq_true_eq]; omega]
  refine wpAny_pure ?_
  show wpAny _ _ (Builtin.Bytes.payload (.ref a) >>= fun b => _) _ _ s
  refine wpAny_bind (pay_ba_any ho ?_)
  have hl : i.toNat < l.length := by omega
  have e : (seqIndex? i l.toArray.size).bind (l.toArray[·]?) = some (l.getD i.toNat 0) := by
    have hn : ¬ i < 0 := by omega
    have e1 : seqIndex? i l.toArray.size = some i.toNat := by simp [seqIndex?, hn, h0, h1]
    rw [e1]; simp [hl]
  show wpAny _ _ (match (seqIndex? i l.toArray.size).bind (l.toArray[·]?) with | some x => _ | none => _) _ _ s
  rw [e]
  exact wpAny_bind (wpAny_mkInt (wpAny_pure ⟨_, rfl, h _ _⟩))
end
end Mine

namespace Mine
abbrev bt (n : Int) : UInt8 := n.toNat.toUInt8
def Byt (ns : List Int) : Prop := ∀ n ∈ ns, 0 ≤ n ∧ n < 256
theorem map_inj : ∀ {a b : List Int}, Byt a → Byt b → a.map bt = b.map bt → a = b
  | [], [], _, _, _ => rfl
  | [], _ :: _, _, _, h => by cases h
  | _ :: _, [], _, _, h => by cases h
  | x :: a, y :: b, ha, hb, h => by
    simp only [List.map_cons, List.cons.injEq] at h
    have h1 := byte_back (ha x (.head _)).1 (ha x (.head _)).2
    have h2 := byte_back (hb y (.head _)).1 (hb y (.head _)).2
    have e : x = y := by rw [← h1, ← h2]; exact congrArg (fun u : UInt8 => ((u.toNat : Nat) : Int)) h.1
    rw [e, map_inj (fun n hn => ha n (.tail _ hn)) (fun n hn => hb n (.tail _ hn)) h.2]
theorem starts_map {ns ps : List Int} (hn : Byt ns) (hp : Byt ps) : starts (ns.map bt) (ps.map bt) = decide (ns.take ps.length = ps) := by
  unfold starts
  rw [List.length_map, ← List.map_take]
  by_cases h : ns.take ps.length = ps
  · rw [h]; simp
  · rw [decide_eq_false h, beq_eq_false_iff_ne]
    intro e
    exact h (map_inj (fun n hm => hn n (List.mem_of_mem_take hm)) hp e)

def BV (h : Heap) (v : Value) (ns : List Int) : Prop := (∃ t, v = .bytes (byteArr ns) t) ∨ (∃ c, v = .ref c ∧ h.get? c = some (baObj (byteArr ns)))
def SwOf (v : Value) (id : String) : Prop := (∃ b t, v = .bytes b t ∧ id = "bytes.startswith") ∨ (∃ c, v = .ref c ∧ id = "bytearray.startswith")
theorem BV.keeps {h h' : Heap} {v : Value} {ns : List Int} (H : BV h v ns) (k : ∀ b o, h.get? b = some o → h'.get? b = some o) : BV h' v ns :=
  H.elim .inl fun ⟨c, e, hc⟩ => .inr ⟨c, e, k _ _ hc⟩

section
variable {prog : Program} {w : World} {M : Model} {A : Around} {E : Value → Shared → Prop} {s : Shared} {h₀ : Heap} {L : Addr} {m : PySem.Str → Option Value} {news : List (Addr × Obj)} {v : Value} {ns : List Int} {id : String}

theorem bv_attr {Q : Value → Shared → Prop} (H : BV h₀ v ns) (F : Fr h₀ L s.heap m) (N : News h₀ L s.heap news)
    (h : ∀ x id h' k, SwOf v id → Fr h₀ L h' m → News h₀ L h' ((x, boundM id v) :: news) → Q (.ref x) { s with heap := h', toks := k }) :
    wpAny (model prog w) A (getAttr v (Str.ofString "startswith") true) Q E s := by
  rcases H with ⟨t, rfl⟩ | ⟨c, rfl, hc⟩
  · exact sw_attr_bytes (h _ _ _ _ (.inl ⟨_, _, rfl, rfl⟩) (F.push _) (N.push F _))
  · exact sw_attr_ba (F.keep _ _ hc) (h _ _ _ _ (.inr ⟨_, rfl, rfl⟩) (F.push _) (N.push F _))

theorem bv_sw2 {Q : Value → Shared → Prop} {x a : Addr} {p q : List UInt8} {t1 t2 : Tok} (pi qi : List Int) (H : BV h₀ v ns) (S : SwOf v id) (hb : Byt ns) (F : Fr h₀ L s.heap m) (N : News h₀ L s.heap news)
    (hm : (x, boundM id v) ∈ news) (ha : (a, tupObj [.bytes p.toArray t1, .bytes q.toArray t2]) ∈ news) (hp : p = pi.map bt) (hq : q = qi.map bt) (hpi : Byt pi) (hqi : Byt qi)
    (h1 : ns.take pi.length = pi ∨ ns.take qi.length = qi → Q (.bool true) s) (h2 : ¬ (ns.take pi.length = pi ∨ ns.take qi.length = qi) → Q (.bool false) s) :
    wpAny (model prog w) A (call (.ref x) [.ref a]) Q E s := by
  have hq' : Q (.bool (starts (ns.map bt) p || starts (ns.map bt) q)) s := by
    rw [hp, hq, starts_map hb hpi, starts_map hb hqi]
    by_cases e : ns.take pi.length = pi ∨ ns.take qi.length = qi
    · have := h1 e
      rcases e with e | e <;> simpa [e] using this
    · have := h2 e
      rw [not_or] at e
      simpa [e.1, e.2] using this
  rcases H with ⟨t, rfl⟩ | ⟨c, rfl, hc⟩
  · rcases S with ⟨b, t', e, rfl⟩ | ⟨c, e, _⟩
    · exact sw_bytes2 (l := ns.map bt) N hm ha hq'
    · cases e
  · rcases S with ⟨b, t', e, _⟩ | ⟨c', e, rfl⟩
    · cases e
    · exact sw_ba2 (l := ns.map bt) N hm (F.keep _ _ hc) ha hq'

theorem bv_sw1 {Q : Value → Shared → Prop} {x : Addr} {p : List UInt8} {t1 : Tok} (pi : List Int) (H : BV h₀ v ns) (S : SwOf v id) (hb : Byt ns) (F : Fr h₀ L s.heap m) (N : News h₀ L s.heap news)
    (hm : (x, boundM id v) ∈ news) (hp : p = pi.map bt) (hpi : Byt pi)
    (h1 : ns.take pi.length = pi → Q (.bool true) s) (h2 : ¬ ns.take pi.length = pi → Q (.bool false) s) :
    wpAny (model prog w) A (call (.ref x) [.bytes p.toArray t1]) Q E s := by
  have hq' : Q (.bool (starts (ns.map bt) p)) s := by
    rw [hp, starts_map hb hpi]
    by_cases e : ns.take pi.length = pi
    · simpa [e] using h1 e
    · simpa [e] using h2 e
  rcases H with ⟨t, rfl⟩ | ⟨c, rfl, hc⟩
  · rcases S with ⟨b, t', e, rfl⟩ | ⟨c, e, _⟩
    · exact sw_bytes1 (l := ns.map bt) N hm hq'
    · cases e
  · rcases S with ⟨b, t', e, _⟩ | ⟨c', e, rfl⟩
    · cases e
    · exact sw_ba1 (l := ns.map bt) N hm (F.keep _ _ hc) hq'

theorem bv_len {Q : Value → Shared → Prop} (H : BV h₀ v ns) (F : Fr h₀ L s.heap m) (hfit : ns.length ≤ 1000000) (h : ∀ t k, Q (.int ns.length t) { s with toks := k }) :
    wpAny (model prog w) A (call (.builtin "len") [v]) Q E s := by
  have e : (byteArr ns).size = ns.length := byteArr_size ns
  rcases H with ⟨t, rfl⟩ | ⟨c, rfl, hc⟩
  · refine len_bytes (by omega) ?_
    rw [e]
    exact h _ _
  · refine len_ba (F.keep _ _ hc) (by omega) fun t k => ?_
    rw [e]
    exact h _ _

theorem getD_bt {i : Int} (hb : Byt ns) (h0 : 0 ≤ i) (h1 : i < ns.length) : ((((ns.map bt).getD i.toNat 0).toNat : Nat) : Int) = ns.getD i.toNat 0 := by
  have hl : i.toNat < ns.length := by omega
  have e : (ns.map bt).getD i.toNat 0 = bt (ns.getD i.toNat 0) := by simp [hl]
  rw [e]
  have hm : ns.getD i.toNat 0 ∈ ns := by simp [hl]
  exact byte_back (hb _ hm).1 (hb _ hm).2

theorem bv_item {Q : Value → Shared → Prop} {value slice : PySem.Expr} {i : Int} {u : Tok} (H : BV h₀ v ns) (hb : Byt ns) (F : Fr h₀ L s.heap m) (hfit : ns.length ≤ 1000000) (h0 : 0 ≤ i) (h1 : i < ns.length)
    (h : ∀ t k, Q (.int (ns.getD i.toNat 0) t) { s with toks := k })
    (hs : subscripted slice false v (.int i u) = operate [v, .int i u] (getItem v (.int i u))) :
    wpAny (model prog w) A (subscriptTail value slice v (.int i u)) Q E s := by
  have hl : i < ((ns.map bt).length : Int) := by rw [List.length_map]; exact h1
  have hf : (ns.map bt).length ≤ 1099511627776 := by rw [List.length_map]; omega
  rcases H with ⟨t, rfl⟩ | ⟨c, rfl, hc⟩
  · refine tail_any (typeIs_bytes s _ t) FB.slot_bytes_getitem.lookup ?_ hs
    refine getItem_bytes (l := ns.map bt) hf h0 hl ?_
    rw [getD_bt hb h0 h1]
    exact h _ _
  · refine tail_any (typeIs_ba (F.keep _ _ hc)) slot_ba_getitem.lookup ?_ hs
    refine item_ba (l := ns.map bt) (F.keep _ _ hc) hf h0 hl fun t k => ?_
    rw [getD_bt hb h0 h1]
    exact h _ _
end
end Mine

namespace Mine
open_top hd for PySem.Challenge.rw_sc0117_01
end Mine

namespace Mine
theorem off_P1 : True := by
  w_top off
  trivial
abbrev Map := PySem.Str → Option Value
abbrev Led := List (Addr × Obj)

theorem pure_call {prog : Program} {w : World} {A : Around} {K : Frag} {R : Result → Shared → Prop} {s : Shared} {p : Program} {loose : List PySem.Str} {mean : ExcName → Option Value} {mg mb : Map}
    {name qual : PySem.Str} {params : Arguments} {body : List Stmt} {scope : Scope} {dV kV doc pm cdv ct oc : Value} {an od : Option Addr} {osl : Array (Option Value)} {f : Addr} {args : Args} (binds : List (PySem.Str × Value)) (m : Map)
    (X : K.In s.heap) (T : Top p loose mean mg mb s.heap)
    (ho : K.lookup f = some ⟨oc, od, .func (fnOf name qual params body scope dV kV doc pm an cdv ct), osl⟩) (hcd : codeIn K cdv qual = true) (hroom : A.depth < recursionLimit)
    (hbind : BindsTo s (fnOf name qual params body scope dV kV doc pm an cdv ct) args binds) (hloc : ∀ y ∈ binds, scope.names.lookup y.1 = some .local)
    (hm : ∀ y, binds.reverse.lookup y = m y)
    (h : ∀ h₁, Fr s.heap s.heap.objs.size h₁ m → News s.heap s.heap.objs.size h₁ [] →
      wpAny (model prog w) (A.deeper (envOf qual scope s.heap.objs.size f cdv)) (execs body (envOf qual scope s.heap.objs.size f cdv))
        (fun fl s' => R (.ok (.ret (match fl with | .ret v => v | _ => .none))) s')
        (fun _ _ => False)
        { s with heap := h₁, toks := s.toks + binds.length })
    (hco : scope.isCoroutine = false) (hgen : scope.isGenerator = false) (hk : scope.kind = .function)
    (hcell : ∀ x ∈ scope.names, x.2 ≠ .cell) : codeAny (model prog w) A (.call (.ref f) args) R s := by
  refine codeAny_call_def (fd := fnOf name qual params body scope dV kV doc pm an cdv ct) (body := body) (binds := binds) hroom (X _ _ ho) rfl T.nolimit (codeRec_of X hcd) rfl hbind hcell hloc (fun h₁ hns hk₁ => ?_) hco hgen hk
  have e : (fun y => binds.reverse.lookup y) = m := funext hm
  rw [e] at hns
  exact wpAny_mono (h h₁ ⟨hns, hk₁, Nat.le_refl _⟩ News.nil) (fun _ _ x => x) fun _ _ x => x.elim

theorem look1 (a : PySem.Str) (v : Value) (y : PySem.Str) : [(a, v)].reverse.lookup y = if y = a then some v else none := by
  simp only [List.reverse_cons, List.reverse_nil, List.nil_append, List.lookup_cons, List.lookup_nil]
  by_cases h : y = a
  · simp [h]
  · rw [if_neg h, show (y == a) = false from beq_eq_false_iff_ne.mpr h]

theorem ret_int {R : Result → Shared → Prop} {a b : Int} {t : Tok} {s : Shared} (e : a = b) (h : R (.ok (.ret (.int a t))) s) : R (.ok (.ret (.int b t))) s := e ▸ h
theorem ret_str {R : Result → Shared → Prop} {a b : PySem.Str} {t : Tok} {s : Shared} (e : a = b) (h : R (.ok (.ret (.str a t))) s) : R (.ok (.ret (.str b t))) s := e ▸ h

noncomputable def nothsN : List Int → Nat
  | [] => 0
  | x :: r => if x = 0 then nothsN r + 1 else 0

theorem nothsN_eq : ∀ (ns : List Int) (k : Nat), (∀ j, j < k → ns[j]? = some 0) → (k = ns.length ∨ ∃ x, ns[k]? = some x ∧ x ≠ 0) → nothsN ns = k
  | [], k, hz, hc => by
    rcases hc with h | ⟨x, h, _⟩
    · simpa [nothsN] using h.symm
    · cases h
  | x :: r, 0, hz, hc => by
    rcases hc with h | ⟨y, h, hy⟩
    · cases h
    · simp only [List.getElem?_cons_zero, Option.some.injEq] at h
      subst h
      simp [nothsN, hy]
  | x :: r, k + 1, hz, hc => by
    have h0 := hz 0 (Nat.succ_pos _)
    simp only [List.getElem?_cons_zero, Option.some.injEq] at h0
    have ih := nothsN_eq r k (fun j hj => by simpa using hz (j + 1) (Nat.succ_lt_succ hj)) (by
      rcases hc with h | ⟨y, h, hy⟩
      · left; simpa using h
      · right; exact ⟨y, by simpa using h, hy⟩)
    simp [nothsN, h0, ih]
theorem getD_some {ns : List Int} {k : Nat} {d : Int} (h : (k : Int) < (ns.length : Int)) : ns[k]? = some (ns.getD (k : Int).toNat d) := by
  have h' : k < ns.length := by omega
  simp [h']

theorem noth_call {prog : Program} {w : World} {env env' : Env} {R : Result → Shared → Prop} {s : Shared} {p : Program} {loose : List PySem.Str} {mean : ExcName → Option Value} {mg mb : Map}
    {l : Addr} {vs : List Value} {ns : List Int}
    (X : (hd.heap_39 w.params).In s.heap) (T : Top p loose mean mg mb s.heap) (hl : s.heap.IsList l vs.toArray) (hi : IntsAre vs ns) (hlen : ns.length ≤ 1000)
    (h : ∀ t h' tk', s.heap.StaysIn h' → R (.ok (.ret (.int (nothsN ns) t))) { s with heap := h', toks := tk' }) :
    codeAny (model prog w) ((callerA.deeper env).deeper env') (.call (.ref 28) ⟨[.ref l], []⟩) R s := by
  have hlen0 := hi.length
  refine' pure_call (K := hd.heap_39 w.params) [(Str.ofString "row", .ref l)] (fun z => if z = Str.ofString "row" then some (.ref l) else none) X T ?k6 ?k7 ?k8 ?k9 ?kB ?km ?_ ?c2 ?c3 ?c4 ?c5
  case k6 => k_is
  case k7 => k_is
  case k8 => k_room
  case k9 => exact BindsTo.of_eq rfl
  case kB => exact locs rfl
  case km => intro y; exact look1 _ _ _
  case c2 => exact rfl
  case c3 => exact rfl
  case c4 => exact rfl
  case c5 => decide
  intro h₁ F N
  k_fold
  k_with "exec While BoolOp cons nil" => (
    rename Fr _ _ _ _ => lF
    rename News _ _ _ _ => lN
    refine While_inv2 (n₀ := ns.length) (fun n m nx => ∃ (k : Nat) (t : Tok), k ≤ ns.length ∧ n = ns.length - k ∧ nx = [] ∧ m = (fun z => if z = Str.ofString "run" then some (.int (k : Int) t) else if z = Str.ofString "row" then some (.ref l) else none) ∧ ∀ j, j < k → ns[j]? = some 0) lF lN ⟨0, _, Nat.zero_le _, rfl, rfl, rfl, fun _ hj => absurd hj (Nat.not_lt_zero _)⟩ ?_
    clear lF lN
    rintro n m₁ nx h₂ tk₁ F₁ N₁ ⟨k, t, hk, hn, rfl, rfl, hz⟩
    k_fold)
  k_steps
  · rename (_ : Int) < _ => hlt
    rename List.getD _ _ _ = _ => hz0
    rename Fr _ _ _ _ => F'
    rename News _ _ _ _ => N'
    refine' ⟨_, _, _, [], ns.length - (k + 1), rfl, F', N', by omega, k + 1, _, by omega, rfl, rfl, ?_, ?_⟩
    rotate_left
    · funext y
      by_cases hy : y = Str.ofString "run"
      · simp only [if_pos hy]; rfl
      · simp only [if_neg hy]
    · intro j hj
      by_cases hjk : j = k
      · subst hjk; rw [getD_some (d := 0) hlt, hz0]
      · exact hz j (by omega)
  · rename (_ : Int) < _ => hlt
    rename List.getD _ _ _ ≠ _ => hz0
    rename Fr _ _ _ _ => F'
    have e := nothsN_eq ns k hz (.inr ⟨_, getD_some hlt, hz0⟩)
    exact ret_int (R := R) (congrArg Nat.cast e) (h _ _ _ F'.keep)
  · rename ¬ _ => hlt
    rename Fr _ _ _ _ => F'
    have e := nothsN_eq ns k hz (.inl (by omega))
    exact ret_int (R := R) (congrArg Nat.cast e) (h _ _ _ F'.keep)
end Mine

namespace Mine
theorem off_P2 : True := by
  w_top off
  trivial
local macro_rules | `(tactic| walk_at "exec For Tuple Tuple cons nil") => `(tactic| k_dflt (refine' For_turns ?F ?_ ?hs ?hE; (case F => k_asm); (case hs => (intro _; rfl)); (case hE => passes_own)))
theorem after_call {h₀ h h' : Heap} {L : Addr} {m : Map} {news : Led} (F : Fr h₀ L h m) (N : News h₀ L h news) (k : h.StaysIn h') : Fr h₀ L h' m ∧ News h₀ L h' news :=
  ⟨⟨F.ns.at' fun o e => k _ o e, fun b o e => k _ _ (F.keep b o e), F.above⟩, fun p hp => ⟨k _ _ (N p hp).1, (N p hp).2⟩⟩

theorem noth_step {prog : Program} {w : World} {env env' : Env} {s : Shared} {p : Program} {loose : List PySem.Str} {mean : ExcName → Option Value} {mg mb : Map} {h₀ : Heap} {L : Addr} {m : Map} {news : Led} {Q E : Value → Shared → Prop}
    {l : Addr} {vs : List Value} {ns : List Int}
    (F : Fr h₀ L s.heap m) (N : News h₀ L s.heap news) (X : (hd.heap_39 w.params).In h₀) (T : Top p loose mean mg mb h₀) (hl : s.heap.IsList l vs.toArray) (hi : IntsAre vs ns) (hlen : ns.length ≤ 1000)
    (h : ∀ t h' tk', Fr h₀ L h' m → News h₀ L h' news → Q (.int (nothsN ns) t) { s with heap := h', toks := tk' }) :
    wpAny (model prog w) ((callerA.deeper env).deeper env') (call (.ref 28) [.ref l] []) Q E s := by
  refine wpAny_call (noth_call (X.keeps F.keep) (T.keeps F.keep) hl hi hlen fun t h' tk' k => ?_)
  obtain ⟨F', N'⟩ := after_call F N k
  exact h t h' tk' F' N'


noncomputable def namedS (ns : List Int) : PySem.Str :=
  if List.take 4 ns = [0, 0, 254, 255] then Str.ofString "utf-32"
  else if List.take 4 ns = [255, 254, 0, 0] then Str.ofString "utf-32"
  else if List.take 2 ns = [254, 255] then Str.ofString "utf-16"
  else if List.take 2 ns = [255, 254] then Str.ofString "utf-16"
  else if List.take 3 ns = [239, 187, 191] then Str.ofString "utf-8-sig"
  else if ns.length = 1 ∨ ns.length = 3 then Str.ofString "utf-8"
  else if 0 < nothsN (List.take 4 ns) then (if 1 < nothsN (List.take 4 ns) ∧ 2 < ns.length then Str.ofString "utf-32-be" else Str.ofString "utf-16-be")
  else if 0 < nothsN (List.take (min 4 ns.length - 1) (List.drop 1 ns)) then (if 2 < nothsN (List.take (min 4 ns.length - 1) (List.drop 1 ns)) then Str.ofString "utf-32-le" else Str.ofString "utf-16-le")
  else Str.ofString "utf-8"

theorem named_call {prog : Program} {w : World} {env : Env} {R : Result → Shared → Prop} {s : Shared} {p : Program} {loose : List PySem.Str} {mean : ExcName → Option Value} {mg mb : Map}
    {l : Addr} {vs : List Value} {ns : List Int}
    (X : (hd.heap_39 w.params).In s.heap) (T : Top p loose mean mg mb s.heap) (hl : s.heap.IsList l vs.toArray) (hi : IntsAre vs ns) (hlen : ns.length ≤ 1000)
    (h : ∀ t h' tk', s.heap.StaysIn h' → R (.ok (.ret (.str (namedS ns) t))) { s with heap := h', toks := tk' }) :
    codeAny (model prog w) (callerA.deeper env) (.call (.ref 35) ⟨[.ref l], []⟩) R s := by
  have hlen0 := hi.length
  refine' pure_call (K := hd.heap_39 w.params) [(Str.ofString "row", .ref l)] (fun z => if z = Str.ofString "row" then some (.ref l) else none) X T ?k6 ?k7 ?k8 ?k9 ?kB ?km ?_ ?c2 ?c3 ?c4 ?c5
  case k6 => k_is
  case k7 => k_is
  case k8 => k_room
  case k9 => exact BindsTo.of_eq rfl
  case kB => exact locs rfl
  case km => intro y; exact look1 _ _ _
  case c2 => exact rfl
  case c3 => exact rfl
  case c4 => exact rfl
  case c5 => decide
  intro h₁ F N
  k_fold
  k_with_none
  k_with "call ref cons nil" => (
    refine' noth_step ?kF ?kN ?kX ?kT ?kl ?ki ?kz ?_
    case kF => k_asm
    case kN => k_asm
    case kX => k_asm
    case kT => k_asm
    case kl => is_list
    case ki => l_ints
    case kz => first | omega | (simp only [List.length_take, List.length_drop]; omega)
    intro t' h' tk' F' N')
  k_steps
  all_goals (
    rename Fr _ _ _ _ => F'
    refine ret_str (R := R) (a := namedS ns) ?_ (h _ _ _ F'.keep)
    unfold namedS
    (repeat (first
      | refine (if_pos (by first | assumption | omega)).trans ?_
      | refine (if_neg (by first | assumption | omega)).trans ?_))
    rfl)
end Mine

namespace Mine
theorem off_P3 : True := by
  w_top off
  trivial
def MyEnd (h₀ : Heap) (L : Addr) (it : Addr × Obj) (J' : Map → Led → Prop) (s s₂ : Shared) : Prop :=
  ∃ h' tk m' news' nx, s₂ = { s with heap := h', toks := tk } ∧ Fr h₀ L h' m' ∧ News h₀ L h' news' ∧ it ∈ news' ∧ (∀ p ∈ nx, p ∈ news') ∧ (∀ p ∈ nx, p.2 ≠ it.2) ∧ J' m' nx
theorem obj_ne {o oI : Obj} {c : String} (h : oI.cls = .type c) (h' : o.cls ≠ .type c) : o ≠ oI := fun e => h' (e ▸ h)
theorem cell_ne {o oI : Obj} {v : Option Value} (h : ∃ fs, oI.data = .fields fs) (h' : o.data = .cell v) : o ≠ oI := by
  intro e
  obtain ⟨fs, h⟩ := h
  rw [← e, h'] at h
  cases h
theorem list_ne {oI : Obj} {its : Array Value} {n : Nat} {c : String} (h : oI.cls = .type c) (h' : Value.type "list" ≠ Value.type c := by decide) : (W.listOf its n) ≠ oI := fun e => h' ((congrArg Obj.cls e).trans h)
def MyPost (h₀ : Heap) (L : Addr) (it : Addr × Obj) (J' : Map → Led → Prop) (s : Shared) (Q : Flow → Shared → Prop) (f : Flow) (s₂ : Shared) : Prop :=
  match f with
  | .ret v => Q (.ret v) s₂
  | .brk => Q .next s₂
  | _ => MyEnd h₀ L it J' s s₂

/-- where the list that is walked lies: below the frame, or in the ledger, for every turn -/
def ListAt (h₀ : Heap) (news : Led) (J : Nat → Map → Led → Prop) (l : Addr) (lo : Obj) : Prop :=
  h₀.get? l = some lo ∨ ((l, lo) ∈ news ∧ ∀ i m nx, J i m nx → (l, lo) ∈ nx)

section
variable {prog : Program} {w : World} {A : Around} {E : Value → Shared → Prop} {s : Shared} {env : Env} {h₀ : Heap} {body : List Stmt} {Q : Flow → Shared → Prop}

theorem own_step {I l : Addr} {lo : Obj} {news₁ own : Led} {h₁ : Heap} {L : Addr} {news : Led} {J : Nat → Map → Led → Prop} {i : Nat} {m₁ : Map}
    (H : ListAt h₀ news J l lo) (hJ : J i m₁ news₁) (N₁ : News h₀ L h₁ (own ++ news₁)) (hown : ∀ p ∈ own, p.1 ∈ [I, l]) (hget : ∀ p ∈ own, h₁.get? p.1 = some p.2)
    {oI : Obj} (hI : h₁.get? I = some oI) {h' : Heap} {news' nx : Led} {m' : Map} (hit : (I, oI) ∈ news') (hsub : ∀ p ∈ nx, p ∈ news') (N' : News h₀ L h' news') (hJ' : J (i + 1) m' nx) : News h₀ L h' (own ++ nx) := by
  rintro ⟨a, o⟩ hp
  rcases List.mem_append.mp hp with hp | hp
  · have h2 : h₁.get? a = some o := hget _ hp
    have h3 := hown _ hp
    have h4 := (N₁ _ (List.mem_append_left _ hp)).2.2
    simp only [List.mem_cons, List.not_mem_nil, or_false] at h3
    rcases h3 with rfl | rfl
    · rw [hI] at h2
      cases h2
      exact N' _ hit
    · rcases H with h5 | ⟨_, h5⟩
      · rw [h5] at h4; cases h4
      · have h6 := (N₁ _ (List.mem_append_right _ (h5 _ _ _ hJ))).1
        dsimp only at h6
        rw [h6] at h2
        cases h2
        exact N' _ (hsub _ (h5 _ _ _ hJ'))
  · exact N' _ (hsub _ hp)

theorem off_wr {L : Addr} {h' : Heap} {I : Addr} {oI : Obj} {news' nx : Led} (N' : News h₀ L h' news') (hit : (I, oI) ∈ news') (hsub : ∀ p ∈ nx, p ∈ news') (hcls : ∀ p ∈ nx, p.2 ≠ oI) : ∀ p ∈ nx, p.1 ∉ [I] := by
  intro p hp hm
  have e := List.mem_singleton.mp hm
  have h1 := (N' _ (hsub p hp)).1
  have h2 := (N' _ hit).1
  dsimp only at h2
  rw [e, h2] at h1
  exact hcls p hp (Option.some.inj h1).symm

theorem list_lt {L : Addr} {news : Led} {J : Nat → Map → Led → Prop} {l : Addr} {lo : Obj} {h : Heap} {m : Map} (H : ListAt h₀ news J l lo) (F : Fr h₀ L h m) (N : News h₀ L h news) : h.get? l = some lo ∧ l ≠ L := by
  rcases H with e | ⟨e, _⟩
  · exact ⟨F.keep _ _ e, Nat.ne_of_lt (Nat.lt_of_lt_of_le (Heap.lt_size e) F.above)⟩
  · exact ⟨(N _ e).1, (N _ e).2.1⟩

theorem for_list {x : PySem.Str} {l : Addr} {lo : Obj} {vs : List Value} {n : Nat} {m₀ : Map} {news : Led} (J : Nat → Map → Led → Prop)
    (hh : A.handled = none) (F : Fr h₀ env.locals s.heap m₀) (N : News h₀ env.locals s.heap news) (H : ListAt h₀ news J l lo) (hc : lo.cls = .type "list") (hd : lo.data = .seq vs.toArray n) (h0 : J 0 m₀ news)
    (turn : ∀ i v m₁ nx I oI h tk, vs[i]? = some v → J i m₁ nx → oI.cls = .type "list_iterator" → (∃ fs, oI.data = .fields fs) → Fr h₀ env.locals h (fun y => if y = x then some v else m₁ y) → News h₀ env.locals h ((I, oI) :: nx) →
      wpAny (model prog w) A (execs body env) (MyPost h₀ env.locals (I, oI) (J (i + 1)) { s with heap := h, toks := tk } Q) E { s with heap := h, toks := tk })
    (done : ∀ m' nx h tk, J vs.length m' nx → Fr h₀ env.locals h m' → News h₀ env.locals h nx → Q .next { s with heap := h, toks := tk }) :
    wpAny (model prog w) A (pyIter (.ref l)) (fun it s₂ => LoopAtV prog w A h₀ env x body Q E it s₂) E s := by
  obtain ⟨hget0, hneL⟩ := list_lt H F N
  have hl : s.heap.IsList l vs.toArray := ⟨lo, hget0, hc, n, hd⟩
  have hlt : l < s.heap.objs.size := Heap.lt_size hget0
  have hne : l ≠ s.heap.objs.size := Nat.ne_of_lt hlt
  refine wpAny_pyIter_list hl ?_
  have W := Walks.list (prog := prog) (w := w) hh s.heap.objs.size l hne vs.toArray
  rw [List.size_toArray] at W
  refine ⟨_, _, _, vs.length, _, _, m₀, news, J, rfl, W, ?_, ?_, ?_, ⟨⟨_, Heap.get?_push_size _ rfl, rfl, rfl⟩, hl.at fun o e => Heap.get?_push_of_some _ e⟩, F.push _, (fun p hp => ⟨Heap.get?_push_of_some _ (N p hp).1, (N p hp).2⟩), h0, ?_, ?_⟩
  · intro hm
    rcases List.mem_cons.mp hm with e | hm
    · exact absurd F.ns.lt (e ▸ Nat.lt_irrefl _)
    · exact hneL (List.mem_singleton.mp hm).symm
  · intro b hb
    rw [List.mem_singleton.mp hb]
    exact next_is_new F
  · intro p hp hI
    exact absurd (Heap.lt_size (N p hp).1) ((List.mem_singleton.mp hI) ▸ Nat.lt_irrefl _)
  · rintro i v m₁ news₁ s₁ own ⟨hh', tk', rfl⟩ hin hP hJ hoff hown hget hall hst F₁ N₁
    obtain ⟨⟨oI, hI, hIc, hId⟩, _⟩ := hst
    have hmI : (s.heap.objs.size, oI) ∈ own := hall _ (by simp) (next_is_new F) _ hI
    have N₂ : News h₀ env.locals hh' ((s.heap.objs.size, oI) :: news₁) := by
      intro p hp
      rcases List.mem_cons.mp hp with rfl | hp
      · exact N₁ _ (List.mem_append_left _ hmI)
      · exact N₁ _ (List.mem_append_right _ hp)
    have hv : vs[i]? = some v := by simpa using hP
    refine wpAny_mono (turn i v m₁ news₁ s.heap.objs.size oI hh' tk' hv hJ hIc ⟨_, hId⟩ F₁ N₂) (fun f s₂ p => ?_) fun _ _ e => e
    have fin : MyEnd h₀ env.locals (s.heap.objs.size, oI) (J (i + 1)) { s with heap := hh', toks := tk' } s₂ → LoopStepU h₀ env.locals [s.heap.objs.size] own (J (i + 1)) { s with heap := hh', toks := tk' } .next s₂ := by
      rintro ⟨h', tk, m', news', nx, e, F', N', hit, hsub, hcls, hj⟩
      exact ⟨rfl, h', tk, m', nx, e, F', own_step H hJ N₁ hown hget hI hit hsub N' hj, off_wr N' hit hsub hcls, hj⟩
    cases f with
    | ret v => exact .ret p
    | brk => exact .brk p
    | next => exact .next (fin p)
    | cont => exact .cont (fin p)
  · rintro h' tk m' news' F' N' _ hJ
    exact done m' news' h' tk hJ F' N'

theorem turns_list {target : PySem.Expr} {l : Addr} {lo : Obj} {vs : List Value} {n : Nat} {m₀ : Map} {news : Led} (J : Nat → Map → Led → Prop)
    (hh : A.handled = none) (F : Fr h₀ env.locals s.heap m₀) (N : News h₀ env.locals s.heap news) (H : ListAt h₀ news J l lo) (hc : lo.cls = .type "list") (hd : lo.data = .seq vs.toArray n) (h0 : J 0 m₀ news)
    (turn : ∀ i v m₁ nx I oI h tk, vs[i]? = some v → J i m₁ nx → oI.cls = .type "list_iterator" → (∃ fs, oI.data = .fields fs) → Fr h₀ env.locals h m₁ → News h₀ env.locals h ((I, oI) :: nx) →
      wpAny (model prog w) A (assign target env v) (fun _ s₂ => wpAny (model prog w) A (execs body env) (MyPost h₀ env.locals (I, oI) (J (i + 1)) { s with heap := h, toks := tk } Q) E s₂) E { s with heap := h, toks := tk })
    (done : ∀ m' nx h tk, J vs.length m' nx → Fr h₀ env.locals h m' → News h₀ env.locals h nx → Q .next { s with heap := h, toks := tk }) :
    wpAny (model prog w) A (pyIter (.ref l)) (fun it s₂ => TurnsAt prog w A h₀ env target body Q E it s₂) E s := by
  obtain ⟨hget0, hneL⟩ := list_lt H F N
  have hl : s.heap.IsList l vs.toArray := ⟨lo, hget0, hc, n, hd⟩
  have hlt : l < s.heap.objs.size := Heap.lt_size hget0
  have hne : l ≠ s.heap.objs.size := Nat.ne_of_lt hlt
  refine wpAny_pyIter_list hl ?_
  have W := KTurns.ofWalks (target := target) (Walks.list (prog := prog) (w := w) (A := A) hh s.heap.objs.size l hne vs.toArray) fun i v s Q E st q => letGo_listiter st.1 q
  rw [List.size_toArray] at W
  refine ⟨_, _, _, vs.length, _, _, _, m₀, news, J, rfl, W, ?_, ?_, ?_, ⟨⟨_, Heap.get?_push_size _ rfl, rfl, rfl⟩, hl.at fun o e => Heap.get?_push_of_some _ e⟩, F.push _, (fun p hp => ⟨Heap.get?_push_of_some _ (N p hp).1, (N p hp).2⟩), h0, ?_, ?_⟩
  · intro hm
    rcases List.mem_cons.mp hm with e | hm
    · exact absurd F.ns.lt (e ▸ Nat.lt_irrefl _)
    · exact hneL (List.mem_singleton.mp hm).symm
  · intro b hb
    rw [List.mem_singleton.mp hb]
    exact next_is_new F
  · intro p hp hI
    exact absurd (Heap.lt_size (N p hp).1) ((List.mem_singleton.mp hI) ▸ Nat.lt_irrefl _)
  · rintro i v m₁ news₁ hh' tk' own hin hP hJ hoff hown hget hall hst F₁ N₁
    obtain ⟨⟨oI, hI, hIc, hId⟩, _⟩ := hst
    have hmI : (s.heap.objs.size, oI) ∈ own := hall _ (by simp) (next_is_new F) _ hI
    have N₂ : News h₀ env.locals hh' ((s.heap.objs.size, oI) :: news₁) := by
      intro p hp
      rcases List.mem_cons.mp hp with rfl | hp
      · exact N₁ _ (List.mem_append_left _ hmI)
      · exact N₁ _ (List.mem_append_right _ hp)
    have hv : vs[i]? = some v := by simpa using hP
    refine wpAny_mono (turn i v m₁ news₁ s.heap.objs.size oI hh' tk' hv hJ hIc ⟨_, hId⟩ F₁ N₂) (fun _ s₂ h₂ => wpAny_mono h₂ (fun f s₃ p => ?_) fun _ _ e => e) fun _ _ e => e
    have fin : MyEnd h₀ env.locals (s.heap.objs.size, oI) (J (i + 1)) { s with heap := hh', toks := tk' } s₃ → LoopStepU h₀ env.locals [s.heap.objs.size] own (J (i + 1)) { s with heap := hh', toks := tk' } .next s₃ := by
      rintro ⟨h', tk, m', news', nx, e, F', N', hit, hsub, hcls, hj⟩
      exact ⟨rfl, h', tk, m', nx, e, F', own_step H hJ N₁ hown hget hI hit hsub N' hj, off_wr N' hit hsub hcls, hj⟩
    cases f with
    | ret v => exact .ret p
    | brk => exact .brk p
    | next => exact .next (fin p)
    | cont => exact .cont (fin p)
  · rintro h' tk m' news' F' N' _ hJ
    exact done m' news' h' tk hJ F' N'

theorem for_range {x : PySem.Str} {r : Addr} {a₀ b₀ : Int} {t₀ u₀ v₀ : Tok} {n : Nat} {m₀ : Map} {news : Led} (J : Nat → Map → Led → Prop)
    (hh : A.handled = none) (hr : IsRange s.heap r a₀ b₀ 1 t₀ u₀ v₀) (hsmall : Builtin.Range.small a₀ b₀ 1 = true) (hn : Builtin.Range.rangeSize a₀ b₀ 1 = (n : Int))
    (F : Fr h₀ env.locals s.heap m₀) (N : News h₀ env.locals s.heap news) (h0 : J 0 m₀ news)
    (turn : ∀ i t m₁ nx I oI h tk, i < n → J i m₁ nx → oI.cls = .type "range_iterator" → (∃ fs, oI.data = .fields fs) → Fr h₀ env.locals h (fun y => if y = x then some (.int (a₀ + i) t) else m₁ y) → News h₀ env.locals h ((I, oI) :: nx) →
      wpAny (model prog w) A (execs body env) (MyPost h₀ env.locals (I, oI) (J (i + 1)) { s with heap := h, toks := tk } Q) E { s with heap := h, toks := tk })
    (done : ∀ m' nx h tk, J n m' nx → Fr h₀ env.locals h m' → News h₀ env.locals h nx → Q .next { s with heap := h, toks := tk }) :
    wpAny (model prog w) A (pyIter (.ref r)) (fun it s₂ => LoopAtV prog w A h₀ env x body Q E it s₂) E s := by
  refine wpAny_pyIter_range hr hsmall ?_
  refine ⟨_, _, _, n, _, _, m₀, news, J, rfl, Walks.range hh s.heap.objs.size a₀ 1 n, ?_, ?_, ?_, (by show IsRangeIter _ _ _ _ _; rw [hn]; simpa using Heap.get?_push_size _ rfl), F.push _, (fun p hp => ⟨Heap.get?_push_of_some _ (N p hp).1, (N p hp).2⟩), h0, ?_, ?_⟩
  · intro hm
    exact absurd F.ns.lt ((List.mem_singleton.mp hm) ▸ Nat.lt_irrefl _)
  · intro b hb
    rw [List.mem_singleton.mp hb]
    exact next_is_new F
  · intro p hp hI
    exact absurd (Heap.lt_size (N p hp).1) ((List.mem_singleton.mp hI) ▸ Nat.lt_irrefl _)
  · rintro i v m₁ news₁ s₁ own ⟨hh', tk', rfl⟩ hin ⟨t, rfl⟩ hJ hoff hown hget hall hst F₁ N₁
    obtain ⟨oI, hI, hIc, hId⟩ : ∃ oI, hh'.get? s.heap.objs.size = some oI ∧ oI.cls = .type "range_iterator" ∧ ∃ fs, oI.data = .fields fs := ⟨_, hst, rfl, _, rfl⟩
    have hmI : (s.heap.objs.size, oI) ∈ own := hall _ (by simp) (next_is_new F) _ hI
    have N₂ : News h₀ env.locals hh' ((s.heap.objs.size, oI) :: news₁) := by
      intro p hp
      rcases List.mem_cons.mp hp with rfl | hp
      · exact N₁ _ (List.mem_append_left _ hmI)
      · exact N₁ _ (List.mem_append_right _ hp)
    rw [Int.mul_one] at F₁
    refine wpAny_mono (turn i t m₁ news₁ s.heap.objs.size oI hh' tk' hin hJ hIc hId F₁ N₂) (fun f s₂ p => ?_) fun _ _ e => e
    have fin : MyEnd h₀ env.locals (s.heap.objs.size, oI) (J (i + 1)) { s with heap := hh', toks := tk' } s₂ → LoopStepU h₀ env.locals [s.heap.objs.size] own (J (i + 1)) { s with heap := hh', toks := tk' } .next s₂ := by
      rintro ⟨h', tk, m', news', nx, e, F', N', hit, hsub, hcls, hj⟩
      refine ⟨rfl, h', tk, m', nx, e, F', ?_, off_wr N' hit hsub hcls, hj⟩
      rintro ⟨a, o⟩ hp
      rcases List.mem_append.mp hp with hp | hp
      · have h2 : hh'.get? a = some o := hget _ hp
        have h3 := List.mem_singleton.mp (hown _ hp)
        dsimp only at h3
        subst h3
        rw [hI] at h2
        cases h2
        exact N' _ hit
      · exact N' _ (hsub _ hp)
    cases f with
    | ret v => exact .ret p
    | brk => exact .brk p
    | next => exact .next (fin p)
    | cont => exact .cont (fin p)
  · rintro h' tk m' news' F' N' _ hJ
    exact done m' news' h' tk hJ F' N'
end
end Mine

namespace Mine
theorem off_P4 : True := by
  w_top off
  trivial
local macro_rules | `(tactic| walk_at "exec For Name Name cons nil") => `(tactic| k_dflt (refine' For_invVF ?F ?k1 ?k2 ?_ ?hs ?hE; (case F => k_asm); (case k1 => exact rfl); (case k2 => exact rfl); (case hs => (intro _; rfl)); (case hE => passes_own)))
local macro_rules | `(tactic| walk_at "pyIter ref") => `(tactic| k_dflt (k_extra "my loop"))

theorem ints_at {vs : List Value} {ns : List Int} (h : IntsAre vs ns) : ∀ {i : Nat} {v : Value}, vs[i]? = some v → ∃ n t, v = .int n t ∧ ns[i]? = some n := by
  induction h with
  | nil => intro i v e; cases e
  | cons n t _ ih =>
    intro i v e
    cases i with
    | zero => simp only [List.getElem?_cons_zero, Option.some.injEq] at e; exact ⟨n, t, e.symm, rfl⟩
    | succ i => exact ih (by simpa using e)

def eightsC (c : Int) : List Int :=
  if c < 128 then [c]
  else if c < 2048 then [192 + Int.fdiv c 64, 128 + Int.fmod c 64]
  else if c < 65536 then [224 + Int.fdiv c 4096, 128 + Int.fmod (Int.fdiv c 64) 64, 128 + Int.fmod c 64]
  else [240 + Int.fdiv c 262144, 128 + Int.fmod (Int.fdiv c 4096) 64, 128 + Int.fmod (Int.fdiv c 64) 64, 128 + Int.fmod c 64]
def eightsL (ns : List Int) : List Int := ns.flatMap eightsC

theorem eights_take {ns : List Int} {i : Nat} {n : Int} (hn : ns[i]? = some n) : eightsL (ns.take (i + 1)) = eightsL (ns.take i) ++ eightsC n := by
  unfold eightsL
  rw [List.take_add_one, hn]
  simp
theorem eightsC_len (n : Int) : (eightsC n).length ≤ 4 := by
  unfold eightsC
  split
  · simp
  · split
    · simp
    · split <;> simp
theorem ints_app {ws : List Value} {a b c : List Int} (h : IntsAre ws (a ++ b)) (e : c = b) : IntsAre ws (a ++ c) := e ▸ h
theorem end1 {h₀ h' : Heap} {L a : Addr} {o : Obj} {it : Addr × Obj} {J' : Map → Led → Prop} {s : Shared} {tk : Nat} {Q : Flow → Shared → Prop} {m' : Map} {news' : Led} (F' : Fr h₀ L h' m') (N' : News h₀ L h' news') (hit : it ∈ news') (hm : (a, o) ∈ news') (hcls : o ≠ it.2)
    (hj : J' m' [(a, o)]) : MyPost h₀ L it J' s Q .next { s with heap := h', toks := tk } :=
  ⟨h', tk, m', news', [(a, o)], rfl, F', N', hit, (fun p hp => List.mem_singleton.mp hp ▸ hm), (fun p hp => by rw [List.mem_singleton.mp hp]; exact hcls), hj⟩

theorem eights_call {prog : Program} {w : World} {env : Env} {R : Result → Shared → Prop} {s : Shared} {p : Program} {loose : List PySem.Str} {mean : ExcName → Option Value} {mg mb : Map}
    {l : Addr} {vs : List Value} {ns : List Int}
    (X : (hd.heap_39 w.params).In s.heap) (T : Top p loose mean mg mb s.heap) (hl : s.heap.IsList l vs.toArray) (hi : IntsAre vs ns) (hlen : ns.length ≤ 10) (hb : ∀ n ∈ ns, 0 ≤ n ∧ n < 1114112)
    (h : ∀ l' vs' h' tk', s.heap.StaysIn h' → s.heap.get? l' = none → h'.get? l' = some (W.listOf vs'.toArray 0) → IntsAre vs' (eightsL ns) → R (.ok (.ret (.ref l'))) { s with heap := h', toks := tk' }) :
    codeAny (model prog w) (callerA.deeper env) (.call (.ref 42) ⟨[.ref l], []⟩) R s := by
  have hlen0 := hi.length
  obtain ⟨lo, hlo, hlc, ln, hld⟩ := id hl
  refine' pure_call (K := hd.heap_39 w.params) [(Str.ofString "codes", .ref l)] (fun z => if z = Str.ofString "codes" then some (.ref l) else none) X T ?k6 ?k7 ?k8 ?k9 ?kB ?km ?_ ?c2 ?c3 ?c4 ?c5
  case k6 => k_is
  case k7 => k_is
  case k8 => k_room
  case k9 => exact BindsTo.of_eq rfl
  case kB => exact locs rfl
  case km => intro y; exact look1 _ _ _
  case c2 => exact rfl
  case c3 => exact rfl
  case c4 => exact rfl
  case c5 => decide
  intro h₁ F N
  k_fold
  k_with_none
  k_with "my loop" => (
    refine' for_list (lo := lo) (vs := vs) (n := ln) (fun i m nx => ∃ (l' : Addr) (vs' : List Value) (u : Option Value), nx = [(l', W.listOf vs'.toArray 0)] ∧ m = (fun z => if z = Str.ofString "row" then some (.ref l') else if z = Str.ofString "code" then u else if z = Str.ofString "codes" then some (.ref l) else none) ∧ IntsAre vs' (eightsL (ns.take i)) ∧ (eightsL (ns.take i)).length ≤ 4 * i) ?hh ?F ?N ?H ?hc ?hd ?h0 ?turn ?done
    case hh => exact rfl
    case F => k_asm
    case N => k_asm
    case H => exact Or.inl hlo
    case hc => exact hlc
    case hd => exact hld
    case h0 => 
      refine ⟨_, [], none, rfl, ?_, IntsAre.nil, Nat.le_refl _⟩
      funext z
      by_cases h1 : z = Str.ofString "row"
      · simp only [if_pos h1]
      · simp only [if_neg h1]
        by_cases h2 : z = Str.ofString "code"
        · subst h2; rfl
        · simp only [if_neg h2]
    case' turn =>
      rintro i v m₁ nx I oI h₂ tk₂ hv ⟨l', vs', u, rfl, rfl, hi', hlen'⟩ hIc hId F₁ N₁
      obtain ⟨n, t, rfl, hn⟩ := ints_at hi hv
      obtain ⟨hn0, hn1⟩ := hb n (List.mem_of_getElem? hn)
      have hil : i < ns.length := (List.getElem?_eq_some_iff.mp hn).1
      try k_fold
    case' done =>
      rintro m' nx h₂ tk₂ ⟨l', vs', u, rfl, rfl, hi', hlen'⟩ F₁ N₁)
  k_steps
  · rename Fr _ _ _ _ => F'
    rename News _ _ _ _ => N'
    rw [hlen0, List.take_length] at hi'
    exact h l' vs' _ _ F'.keep (N'.fresh (.head _)) (N'.get (.head _)) hi'
  all_goals (
    rename Fr _ _ _ _ => F'
    rename News _ _ _ _ => N'
    rename IntsAre _ (_ ++ _) => hI'
    refine end1 F' N' (by k_mem) (List.Mem.head _) (list_ne hIc) ⟨_, _, some (.int n t), rfl, ?_, ?_, ?_⟩
    rotate_left
    · rw [eights_take hn]
      refine ints_app hI' ?_
      unfold eightsC
      (repeat (first
        | refine (if_pos (by assumption)).trans ?_
        | refine (if_neg (by assumption)).trans ?_))
      rfl
    · rw [eights_take hn, List.length_append]
      have := eightsC_len n
      omega
    funext z
    by_cases hz1 : z = Str.ofString "row"
    · first | rfl | simp only [if_pos hz1]
    by_cases hz2 : z = Str.ofString "code"
    · first | rfl | simp only [if_pos hz2] | simp only [if_pos hz2, if_neg hz1]
    first | rfl | simp only [if_neg hz1, if_neg hz2])
end Mine

namespace Mine
theorem off_P5all : True := by
  w_top off
  trivial
local macro_rules | `(tactic| walk_at "exec For Name Name cons nil") => `(tactic| k_dflt (first
  | ((with_reducible show wpAny _ _ (exec (Stmt.For (Expr.Name (Str.ofString "code") _) _ _ _ _) _) _ _ _); (refine' For_invVF ?F ?k1 ?k2 ?_ ?hs ?hE; (case F => k_asm); (case k1 => exact rfl); (case k2 => exact rfl); (case hs => (intro _; rfl)); (case hE => passes_own)))
  | (refine' For_turns ?F ?_ ?hs ?hE; (case F => k_asm); (case hs => (intro _; rfl)); (case hE => passes_own))))
local macro_rules | `(tactic| walk_at "pyIter ref") => `(tactic| k_dflt (k_extra "my loop"))

theorem pure_callC {prog : Program} {w : World} {A : Around} {K : Frag} {R : Result → Shared → Prop} {s : Shared} {p : Program} {loose : List PySem.Str} {mean : ExcName → Option Value} {mg mb : Map}
    {name qual : PySem.Str} {params : Arguments} {body : List Stmt} {scope : Scope} {dV kV doc pm cdv ct oc : Value} {an od : Option Addr} {osl : Array (Option Value)} {f : Addr} {args : Args} (binds : List (PySem.Str × Value))
    (X : K.In s.heap) (T : Top p loose mean mg mb s.heap)
    (ho : K.lookup f = some ⟨oc, od, .func (fnOf name qual params body scope dV kV doc pm an cdv ct), osl⟩) (hcd : codeIn K cdv qual = true) (hroom : A.depth < recursionLimit)
    (hbind : BindsTo s (fnOf name qual params body scope dV kV doc pm an cdv ct) args binds)
    (hkind : (binds.all fun y => scope.names.lookup y.1 == some .local || scope.names.lookup y.1 == some .cell) = true)
    (hnd : ((cellsFrom 0 scope.names []).map (·.1)).Nodup)
    (h : ∀ h₁ tk cells, Fr s.heap s.heap.objs.size h₁ (bindL (envOfC qual scope s.heap.objs.size f cdv).kindOf binds fun _ => none) → News s.heap s.heap.objs.size h₁ cells →
      CellsAre (bindC (envOfC qual scope s.heap.objs.size f cdv).kindOf binds fun _ => none) (cellsFrom (s.heap.objs.size + 1) scope.names []) cells →
      wpAny (model prog w) (A.deeper (envOfC qual scope s.heap.objs.size f cdv)) (execs body (envOfC qual scope s.heap.objs.size f cdv))
        (fun fl s' => R (.ok (.ret (match fl with | .ret v => v | _ => .none))) s')
        (fun _ _ => False)
        { s with heap := h₁, toks := tk })
    (hco : scope.isCoroutine = false) (hgen : scope.isGenerator = false) (hk : scope.kind = .function) : codeAny (model prog w) A (.call (.ref f) args) R s := by
  refine codeAny_call_function hroom (X _ _ ho) rfl hco hgen rfl (codeRec_of X hcd) (hbind _ _ _ _ ?_)
  refine wpAny_newFunctionEnv_cells hk (kindsX hkind _) fun env' he s' x => ?_
  subst he
  refine ⟨T.nolimit.keeps x.toInCall.keep, codeAny_func ?_⟩
  obtain ⟨h₁, tk, rfl, _⟩ := x.done
  have hk₁ := x.toInCall.keep
  obtain ⟨cells, NC, Y⟩ := Cl.news (h₀ := s.heap) (Nat.le_refl _) fun n c hm => ⟨x.cell n c (lookup_of_mem_nodup (cellsFrom_names scope.names 0 (s.heap.objs.size + 1) [] [] rfl ▸ hnd) hm), x.above n c hm⟩
  exact wpAny_mono (h h₁ tk cells ⟨x.toInCall.ns, hk₁, Nat.le_refl _⟩ NC Y) (fun _ _ y => y) fun _ _ y => y.elim

local macro_rules | `(tactic| walk_at "isTrue Name") => `(tactic| k_dflt (refine' isTrue_plain ?_ ?ghe; (case ghe => exact rfl)))
theorem pow256_ne (k : Nat) : (256 : Int) ^ k ≠ 0 := Int.pow_ne_zero (by decide)
theorem pow256_small {k : Int} (h : k < 4) : ((256 : Int) ^ k.toNat).natAbs < 1073741824 := by
  have h' : k.toNat = 0 ∨ k.toNat = 1 ∨ k.toNat = 2 ∨ k.toNat = 3 := by omega
  rcases h' with e | e | e | e <;> rw [e] <;> decide
theorem pow_hi {k n : Int} (h : k < 0 + (((n - 0).toNat : Nat) : Int)) (hn : n ≤ 4 := by decide) : k < 4 := by omega
theorem pow_hi' {k n : Int} (h : k < 0 + (((n - 0).toNat : Nat) : Int)) (hn : n ≤ 4 := by decide) : k ≤ 1000000 := by omega
local macro_rules | `(tactic| walk_at "binaryOp Pow int int") => `(tactic| ((with_reducible show wpAny _ _ (binaryOp _ (Value.int 256 _) (Value.int _ _)) _ _ _); k_dflt (refine' pow_int_small ?kfa ?kfb ?kfd ?_; (case kfa => with_reducible assumption); (case kfb => exact pow_hi' (by with_reducible assumption)); (case kfd => decide))))
local macro_rules | `(tactic| walk_at "binaryOp FloorDiv int int") => `(tactic| ((with_reducible show wpAny _ _ (binaryOp _ (Value.int _ _) (Value.int ((256 : Int) ^ (_ : Nat)) _)) _ _ _); k_dflt (refine' floordiv_int ?kfa ?_ ?kfc; (case kfa => exact pow256_ne _); (case kfc => exact Or.inl (PyProof.noPylong_small (pow256_small (pow_hi (by with_reducible assumption))))))))
def unitsC (wd : Int) (c : Int) : List Int := if wd = 2 ∧ 65535 < c then [55296 + Int.fdiv (c - 65536) 1024, 56320 + Int.fmod (c - 65536) 1024] else [c]
def partC (wd : Int) (little : Bool) (u : Int) : List Int :=
  if little then (rangeKs 0 (wd - 0).toNat).map fun k => Int.fmod (Int.fdiv u (256 ^ k.toNat)) 256 else ((rangeKs 0 (wd - 0).toNat).map fun k => Int.fmod (Int.fdiv u (256 ^ k.toNat)) 256).reverse
def wideC (wd : Int) (little : Bool) (c : Int) : List Int := (unitsC wd c).flatMap (partC wd little)
def wideL (wd : Int) (little : Bool) (ns : List Int) : List Int := ns.flatMap (wideC wd little)
theorem wide_take {wd : Int} {little : Bool} {ns : List Int} {i : Nat} {n : Int} (hn : ns[i]? = some n) : wideL wd little (ns.take (i + 1)) = wideL wd little (ns.take i) ++ wideC wd little n := by
  unfold wideL
  rw [List.take_add_one, hn]
  simp
theorem wide_two {wd : Int} {little : Bool} {n : Int} (h : wd = 2 ∧ 65535 < n) : wideC wd little n = partC wd little (55296 + Int.fdiv (n - 65536) 1024) ++ partC wd little (56320 + Int.fmod (n - 65536) 1024) := by
  unfold wideC unitsC
  rw [if_pos h]
  simp
theorem wide_one {wd : Int} {little : Bool} {n : Int} (h : ¬ (wd = 2 ∧ 65535 < n)) : wideC wd little n = partC wd little n := by
  unfold wideC unitsC
  rw [if_neg h]
  simp
theorem part_len (wd : Int) (little : Bool) (u : Int) : (partC wd little u).length = wd.toNat := by
  unfold partC
  cases little
  · rw [if_neg (by decide), List.length_reverse, List.length_map, rangeKs_length, Int.sub_zero]
  · rw [if_pos rfl, List.length_map, rangeKs_length, Int.sub_zero]
theorem wide_len {wd : Int} (little : Bool) (n : Int) (hw : wd = 2 ∨ wd = 4) : (wideC wd little n).length ≤ 4 := by
  by_cases h : wd = 2 ∧ 65535 < n
  · rw [wide_two h, List.length_append, part_len, part_len]
    rcases hw with e | e <;> subst e <;> omega
  · rw [wide_one h, part_len]
    rcases hw with e | e <;> subst e <;> decide
theorem wide_ints1 {wd : Int} {little : Bool} {ns : List Int} {i : Nat} {n : Int} {ws : List Value} {P : List Int} (hn : ns[i]? = some n) (h : ¬ (wd = 2 ∧ 65535 < n)) (hp : P = partC wd little n) (hI : IntsAre ws (wideL wd little (ns.take i) ++ P)) :
    IntsAre ws (wideL wd little (ns.take (i + 1))) := by
  rw [wide_take hn, wide_one h, ← hp]; exact hI
theorem wide_ints2 {wd : Int} {little : Bool} {ns : List Int} {i : Nat} {n : Int} {ws : List Value} {P P' : List Int} (hn : ns[i]? = some n) (h : wd = 2 ∧ 65535 < n) (hp : P = partC wd little (55296 + Int.fdiv (n - 65536) 1024))
    (hp' : P' = partC wd little (56320 + Int.fmod (n - 65536) 1024)) (hI : IntsAre ws (wideL wd little (ns.take i) ++ P ++ P')) : IntsAre ws (wideL wd little (ns.take (i + 1))) := by
  rw [wide_take hn, wide_two h, ← hp, ← hp', ← List.append_assoc]; exact hI

theorem news_ne {h₀ h : Heap} {L a b : Addr} {o o' : Obj} {news : Led} (N : News h₀ L h news) (ha : (a, o) ∈ news) (hb : (b, o') ∈ news) (h' : o ≠ o') : a ≠ b := by
  intro e
  subst e
  have h1 := N.get ha
  rw [N.get hb] at h1
  exact h' (Option.some.inj h1).symm
theorem cell_ne_list {o : Obj} {its : Array Value} {n : Nat} {v : Option Value} (h : o.data = .cell v) : o ≠ W.listOf its n := by
  intro e
  rw [e] at h
  cases h

def wideM (l l' : Addr) (wd : Int) (tw : Tok) (little : Bool) (u1 u2 u4 : Option Value) : Map := fun z => if z = Str.ofString "row" then some (.ref l') else if z = Str.ofString "code" then u1 else if z = Str.ofString "units" then u2 else if z = Str.ofString "part" then u4 else if z = Str.ofString "little" then some (.bool little) else if z = Str.ofString "width" then some (.int wd tw) else if z = Str.ofString "codes" then some (.ref l) else none
def WideJ (l cA : Addr) (wd : Int) (tw : Tok) (little : Bool) (ns : List Int) (i : Nat) (m : Map) (nx : Led) : Prop :=
  ∃ (l' : Addr) (vs' : List Value) (u1 u2 u4 : Option Value) (oc : Obj) (cv : Option Value), nx = [(l', W.listOf vs'.toArray 0), (cA, oc)] ∧ oc.data = .cell cv ∧ m = wideM l l' wd tw little u1 u2 u4 ∧ IntsAre vs' (wideL wd little (ns.take i)) ∧ (wideL wd little (ns.take i)).length ≤ 4 * i
theorem wide_end {h₀ h' : Heap} {L I D l cA : Addr} {oI oc : Obj} {wd : Int} {tw : Tok} {little : Bool} {ns : List Int} {i : Nat} {n : Int} {s : Shared} {tk : Nat} {Q : Flow → Shared → Prop} {m' : Map} {news' : Led} {ws : List Value} {cv : Option Value}
    (hw : wd = 2 ∨ wd = 4) (hn : ns[i]? = some n) (hlen : (wideL wd little (ns.take i)).length ≤ 4 * i) (F' : Fr h₀ L h' m') (N' : News h₀ L h' news') (hit : (I, oI) ∈ news') (hm : (D, W.listOf ws.toArray 0) ∈ news') (hm2 : (cA, oc) ∈ news') (hc : oc.data = .cell cv)
    (hIc : oI.cls = .type "list_iterator") (hId : ∃ fs, oI.data = .fields fs) (hrow : m' (Str.ofString "row") = some (.ref D))
    (ho : ∀ z, z ≠ Str.ofString "row" → z ≠ Str.ofString "code" → z ≠ Str.ofString "units" → z ≠ Str.ofString "part" → m' z = if z = Str.ofString "little" then some (.bool little) else if z = Str.ofString "width" then some (.int wd tw) else if z = Str.ofString "codes" then some (.ref l) else none)
    (hI : IntsAre ws (wideL wd little (ns.take (i + 1)))) : MyPost h₀ L (I, oI) (WideJ l cA wd tw little ns (i + 1)) s Q .next { s with heap := h', toks := tk } := by
  refine ⟨h', tk, m', news', [(D, W.listOf ws.toArray 0), (cA, oc)], rfl, F', N', hit, ?_, ?_, D, ws, m' (Str.ofString "code"), m' (Str.ofString "units"), m' (Str.ofString "part"), oc, cv, rfl, hc, ?_, hI, ?_⟩
  · intro p hp
    simp only [List.mem_cons, List.not_mem_nil, or_false] at hp
    rcases hp with rfl | rfl
    · exact hm
    · exact hm2
  · intro p hp
    simp only [List.mem_cons, List.not_mem_nil, or_false] at hp
    rcases hp with rfl | rfl
    · exact list_ne hIc
    · exact cell_ne hId hc
  · funext z
    unfold wideM
    by_cases h1 : z = Str.ofString "row"
    · rw [if_pos h1, h1, hrow]
    · rw [if_neg h1]
      by_cases h2 : z = Str.ofString "code"
      · rw [if_pos h2, h2]
      · rw [if_neg h2]
        by_cases h3 : z = Str.ofString "units"
        · rw [if_pos h3, h3]
        · rw [if_neg h3]
          by_cases h4 : z = Str.ofString "part"
          · rw [if_pos h4, h4]
          · rw [if_neg h4]
            exact ho z h1 h2 h3 h4
  · rw [wide_take hn, List.length_append]
    have := wide_len little n hw
    omega

theorem wide_call_2t {prog : Program} {w : World} {env : Env} {R : Result → Shared → Prop} {s : Shared} {p : Program} {loose : List PySem.Str} {mean : ExcName → Option Value} {mg mb : Map}
    {l : Addr} {vs : List Value} {ns : List Int} {tw : Tok}
    (X : (hd.heap_39 w.params).In s.heap) (T : Top p loose mean mg mb s.heap) (hl : s.heap.IsList l vs.toArray) (hi : IntsAre vs ns) (hlen : ns.length ≤ 10) (hb : ∀ n ∈ ns, 0 ≤ n ∧ n < 1114112)
    (h : ∀ l' vs' h' tk', s.heap.StaysIn h' → s.heap.get? l' = none → h'.get? l' = some (W.listOf vs'.toArray 0) → IntsAre vs' (wideL 2 true ns) → R (.ok (.ret (.ref l'))) { s with heap := h', toks := tk' }) :
    codeAny (model prog w) (callerA.deeper env) (.call (.ref 47) ⟨[.ref l, .int 2 tw, .bool true], []⟩) R s := by
  have hlen0 := hi.length
  obtain ⟨lo, hlo, hlc, ln, hld⟩ := id hl
  refine' pure_callC (K := hd.heap_39 w.params) [(Str.ofString "codes", .ref l), (Str.ofString "width", .int 2 tw), (Str.ofString "little", .bool true)] X T ?k6 ?k7 ?k8 ?k9 ?kB ?kD ?_ ?c2 ?c3 ?c4
  case k6 => k_is
  case k7 => k_is
  case k8 => k_room
  case k9 => exact BindsTo.of_eq rfl
  case kB => exact rfl
  case kD => decide +kernel
  case c2 => exact rfl
  case c3 => exact rfl
  case c4 => exact rfl
  intro h₁ tk₀ cells F N Y
  have hY := CellsAre.one Y
  obtain ⟨oc, hE, d1⟩ := hY
  subst hE
  clear Y
  replace F : Fr s.heap s.heap.objs.size h₁ (fun y => if y = Str.ofString "little" then some (.bool true) else if y = Str.ofString "width" then some (.int 2 tw) else if y = Str.ofString "codes" then some (.ref l) else none) := F
  replace d1 : oc.data = .cell none := d1
  change wpAny _ _ _ _ _ _
  k_fold
  k_with_none
  k_with "my loop" => (
    refine' for_list (lo := lo) (vs := vs) (n := ln) (WideJ l (s.heap.objs.size + 1) 2 tw true ns) ?hh ?F ?N ?H ?hc ?hd ?h0 ?turn ?done
    case hh => exact rfl
    case F => k_asm
    case N => k_asm
    case H => exact Or.inl hlo
    case hc => exact hlc
    case hd => exact hld
    case h0 =>
      refine ⟨_, [], none, none, none, oc, none, rfl, d1, ?_, IntsAre.nil, Nat.le_refl _⟩
      funext z
      unfold wideM
      by_cases h1 : z = Str.ofString "row"
      · rw [if_pos h1, if_pos h1]
      · rw [if_neg h1, if_neg h1]
        by_cases h2 : z = Str.ofString "code"
        · subst h2; rfl
        · rw [if_neg h2]
          by_cases h3 : z = Str.ofString "units"
          · subst h3; rfl
          · rw [if_neg h3]
            by_cases h4 : z = Str.ofString "part"
            · subst h4; rfl
            · rw [if_neg h4]
    case' turn =>
      rintro i v m₁ nx I oI h₂ tk₂ hv ⟨l', vs', u1, u2, u4, oc', cv, rfl, hcv, rfl, hi', hlen'⟩ hIc hId F₁ N₁
      obtain ⟨n, t, rfl, hn⟩ := ints_at hi hv
      obtain ⟨hn0, hn1⟩ := hb n (List.mem_of_getElem? hn)
      have hil : i < ns.length := (List.getElem?_eq_some_iff.mp hn).1
      have hne1 := neN (news_ne N₁ (List.Mem.head _) (List.Mem.tail _ (List.Mem.tail _ (List.Mem.head _))) (cell_ne hId hcv).symm)
      have hne2 := neN (news_ne N₁ (List.Mem.tail _ (List.Mem.head _)) (List.Mem.tail _ (List.Mem.tail _ (List.Mem.head _))) (cell_ne_list hcv).symm)
      unfold wideM at F₁
      try k_fold
    case' done =>
      rintro m' nx h₂ tk₂ ⟨l', vs', u1, u2, u4, oc', cv, rfl, hcv, rfl, hi', hlen'⟩ F₁ N₁
      unfold wideM at F₁)
  k_steps
  · rename Fr _ _ _ _ => F'
    rename News _ _ _ _ => N'
    rw [hlen0, List.take_length] at hi'
    exact h l' vs' _ _ F'.keep (N'.fresh (.head _)) (N'.get (.head _)) hi'
  all_goals (
    rename Fr _ _ _ _ => F'
    rename News _ _ _ _ => N'
    rename IntsAre _ (_ ++ _) => hI'
    refine wide_end (by decide) hn hlen' F' N' (by k_mem) (List.Mem.head _) (by k_mem) (by assumption) hIc hId rfl ?_ ?_
    · intro z h1 h2 h3 h4
      simp only [if_neg h1, if_neg h2, if_neg h3, if_neg h4]
    · first
        | exact wide_ints2 hn ⟨rfl, by assumption⟩ rfl rfl hI'
        | exact wide_ints1 hn (by omega) rfl hI')
theorem wide_call_2f {prog : Program} {w : World} {env : Env} {R : Result → Shared → Prop} {s : Shared} {p : Program} {loose : List PySem.Str} {mean : ExcName → Option Value} {mg mb : Map}
    {l : Addr} {vs : List Value} {ns : List Int} {tw : Tok}
    (X : (hd.heap_39 w.params).In s.heap) (T : Top p loose mean mg mb s.heap) (hl : s.heap.IsList l vs.toArray) (hi : IntsAre vs ns) (hlen : ns.length ≤ 10) (hb : ∀ n ∈ ns, 0 ≤ n ∧ n < 1114112)
    (h : ∀ l' vs' h' tk', s.heap.StaysIn h' → s.heap.get? l' = none → h'.get? l' = some (W.listOf vs'.toArray 0) → IntsAre vs' (wideL 2 false ns) → R (.ok (.ret (.ref l'))) { s with heap := h', toks := tk' }) :
    codeAny (model prog w) (callerA.deeper env) (.call (.ref 47) ⟨[.ref l, .int 2 tw, .bool false], []⟩) R s := by
  have hlen0 := hi.length
  obtain ⟨lo, hlo, hlc, ln, hld⟩ := id hl
  refine' pure_callC (K := hd.heap_39 w.params) [(Str.ofString "codes", .ref l), (Str.ofString "width", .int 2 tw), (Str.ofString "little", .bool false)] X T ?k6 ?k7 ?k8 ?k9 ?kB ?kD ?_ ?c2 ?c3 ?c4
  case k6 => k_is
  case k7 => k_is
  case k8 => k_room
  case k9 => exact BindsTo.of_eq rfl
  case kB => exact rfl
  case kD => decide +kernel
  case c2 => exact rfl
  case c3 => exact rfl
  case c4 => exact rfl
  intro h₁ tk₀ cells F N Y
  have hY := CellsAre.one Y
  obtain ⟨oc, hE, d1⟩ := hY
  subst hE
  clear Y
  replace F : Fr s.heap s.heap.objs.size h₁ (fun y => if y = Str.ofString "little" then some (.bool false) else if y = Str.ofString "width" then some (.int 2 tw) else if y = Str.ofString "codes" then some (.ref l) else none) := F
  replace d1 : oc.data = .cell none := d1
  change wpAny _ _ _ _ _ _
  k_fold
  k_with_none
  k_with "my loop" => (
    refine' for_list (lo := lo) (vs := vs) (n := ln) (WideJ l (s.heap.objs.size + 1) 2 tw false ns) ?hh ?F ?N ?H ?hc ?hd ?h0 ?turn ?done
    case hh => exact rfl
    case F => k_asm
    case N => k_asm
    case H => exact Or.inl hlo
    case hc => exact hlc
    case hd => exact hld
    case h0 =>
      refine ⟨_, [], none, none, none, oc, none, rfl, d1, ?_, IntsAre.nil, Nat.le_refl _⟩
      funext z
      unfold wideM
      by_cases h1 : z = Str.ofString "row"
      · rw [if_pos h1, if_pos h1]
      · rw [if_neg h1, if_neg h1]
        by_cases h2 : z = Str.ofString "code"
        · subst h2; rfl
        · rw [if_neg h2]
          by_cases h3 : z = Str.ofString "units"
          · subst h3; rfl
          · rw [if_neg h3]
            by_cases h4 : z = Str.ofString "part"
            · subst h4; rfl
            · rw [if_neg h4]
    case' turn =>
      rintro i v m₁ nx I oI h₂ tk₂ hv ⟨l', vs', u1, u2, u4, oc', cv, rfl, hcv, rfl, hi', hlen'⟩ hIc hId F₁ N₁
      obtain ⟨n, t, rfl, hn⟩ := ints_at hi hv
      obtain ⟨hn0, hn1⟩ := hb n (List.mem_of_getElem? hn)
      have hil : i < ns.length := (List.getElem?_eq_some_iff.mp hn).1
      have hne1 := neN (news_ne N₁ (List.Mem.head _) (List.Mem.tail _ (List.Mem.tail _ (List.Mem.head _))) (cell_ne hId hcv).symm)
      have hne2 := neN (news_ne N₁ (List.Mem.tail _ (List.Mem.head _)) (List.Mem.tail _ (List.Mem.tail _ (List.Mem.head _))) (cell_ne_list hcv).symm)
      unfold wideM at F₁
      try k_fold
    case' done =>
      rintro m' nx h₂ tk₂ ⟨l', vs', u1, u2, u4, oc', cv, rfl, hcv, rfl, hi', hlen'⟩ F₁ N₁
      unfold wideM at F₁)
  k_steps
  · rename Fr _ _ _ _ => F'
    rename News _ _ _ _ => N'
    rw [hlen0, List.take_length] at hi'
    exact h l' vs' _ _ F'.keep (N'.fresh (.head _)) (N'.get (.head _)) hi'
  all_goals (
    rename Fr _ _ _ _ => F'
    rename News _ _ _ _ => N'
    rename IntsAre _ (_ ++ _) => hI'
    refine wide_end (by decide) hn hlen' F' N' (by k_mem) (List.Mem.head _) (by k_mem) (by assumption) hIc hId rfl ?_ ?_
    · intro z h1 h2 h3 h4
      simp only [if_neg h1, if_neg h2, if_neg h3, if_neg h4]
    · first
        | exact wide_ints2 hn ⟨rfl, by assumption⟩ rfl rfl hI'
        | exact wide_ints1 hn (by omega) rfl hI')
theorem wide_call_4t {prog : Program} {w : World} {env : Env} {R : Result → Shared → Prop} {s : Shared} {p : Program} {loose : List PySem.Str} {mean : ExcName → Option Value} {mg mb : Map}
    {l : Addr} {vs : List Value} {ns : List Int} {tw : Tok}
    (X : (hd.heap_39 w.params).In s.heap) (T : Top p loose mean mg mb s.heap) (hl : s.heap.IsList l vs.toArray) (hi : IntsAre vs ns) (hlen : ns.length ≤ 10) (hb : ∀ n ∈ ns, 0 ≤ n ∧ n < 1114112)
    (h : ∀ l' vs' h' tk', s.heap.StaysIn h' → s.heap.get? l' = none → h'.get? l' = some (W.listOf vs'.toArray 0) → IntsAre vs' (wideL 4 true ns) → R (.ok (.ret (.ref l'))) { s with heap := h', toks := tk' }) :
    codeAny (model prog w) (callerA.deeper env) (.call (.ref 47) ⟨[.ref l, .int 4 tw, .bool true], []⟩) R s := by
  have hlen0 := hi.length
  obtain ⟨lo, hlo, hlc, ln, hld⟩ := id hl
  refine' pure_callC (K := hd.heap_39 w.params) [(Str.ofString "codes", .ref l), (Str.ofString "width", .int 4 tw), (Str.ofString "little", .bool true)] X T ?k6 ?k7 ?k8 ?k9 ?kB ?kD ?_ ?c2 ?c3 ?c4
  case k6 => k_is
  case k7 => k_is
  case k8 => k_room
  case k9 => exact BindsTo.of_eq rfl
  case kB => exact rfl
  case kD => decide +kernel
  case c2 => exact rfl
  case c3 => exact rfl
  case c4 => exact rfl
  intro h₁ tk₀ cells F N Y
  have hY := CellsAre.one Y
  obtain ⟨oc, hE, d1⟩ := hY
  subst hE
  clear Y
  replace F : Fr s.heap s.heap.objs.size h₁ (fun y => if y = Str.ofString "little" then some (.bool true) else if y = Str.ofString "width" then some (.int 4 tw) else if y = Str.ofString "codes" then some (.ref l) else none) := F
  replace d1 : oc.data = .cell none := d1
  change wpAny _ _ _ _ _ _
  k_fold
  k_with_none
  k_with "my loop" => (
    refine' for_list (lo := lo) (vs := vs) (n := ln) (WideJ l (s.heap.objs.size + 1) 4 tw true ns) ?hh ?F ?N ?H ?hc ?hd ?h0 ?turn ?done
    case hh => exact rfl
    case F => k_asm
    case N => k_asm
    case H => exact Or.inl hlo
    case hc => exact hlc
    case hd => exact hld
    case h0 =>
      refine ⟨_, [], none, none, none, oc, none, rfl, d1, ?_, IntsAre.nil, Nat.le_refl _⟩
      funext z
      unfold wideM
      by_cases h1 : z = Str.ofString "row"
      · rw [if_pos h1, if_pos h1]
      · rw [if_neg h1, if_neg h1]
        by_cases h2 : z = Str.ofString "code"
        · subst h2; rfl
        · rw [if_neg h2]
          by_cases h3 : z = Str.ofString "units"
          · subst h3; rfl
          · rw [if_neg h3]
            by_cases h4 : z = Str.ofString "part"
            · subst h4; rfl
            · rw [if_neg h4]
    case' turn =>
      rintro i v m₁ nx I oI h₂ tk₂ hv ⟨l', vs', u1, u2, u4, oc', cv, rfl, hcv, rfl, hi', hlen'⟩ hIc hId F₁ N₁
      obtain ⟨n, t, rfl, hn⟩ := ints_at hi hv
      obtain ⟨hn0, hn1⟩ := hb n (List.mem_of_getElem? hn)
      have hil : i < ns.length := (List.getElem?_eq_some_iff.mp hn).1
      have hne1 := neN (news_ne N₁ (List.Mem.head _) (List.Mem.tail _ (List.Mem.tail _ (List.Mem.head _))) (cell_ne hId hcv).symm)
      have hne2 := neN (news_ne N₁ (List.Mem.tail _ (List.Mem.head _)) (List.Mem.tail _ (List.Mem.tail _ (List.Mem.head _))) (cell_ne_list hcv).symm)
      unfold wideM at F₁
      try k_fold
    case' done =>
      rintro m' nx h₂ tk₂ ⟨l', vs', u1, u2, u4, oc', cv, rfl, hcv, rfl, hi', hlen'⟩ F₁ N₁
      unfold wideM at F₁)
  k_steps
  · rename Fr _ _ _ _ => F'
    rename News _ _ _ _ => N'
    rw [hlen0, List.take_length] at hi'
    exact h l' vs' _ _ F'.keep (N'.fresh (.head _)) (N'.get (.head _)) hi'
  all_goals (
    rename Fr _ _ _ _ => F'
    rename News _ _ _ _ => N'
    rename IntsAre _ (_ ++ _) => hI'
    refine wide_end (by decide) hn hlen' F' N' (by k_mem) (List.Mem.head _) (by k_mem) (by assumption) hIc hId rfl ?_ ?_
    · intro z h1 h2 h3 h4
      simp only [if_neg h1, if_neg h2, if_neg h3, if_neg h4]
    · first
        | exact wide_ints2 hn ⟨rfl, by assumption⟩ rfl rfl hI'
        | exact wide_ints1 hn (by omega) rfl hI')
theorem wide_call_4f {prog : Program} {w : World} {env : Env} {R : Result → Shared → Prop} {s : Shared} {p : Program} {loose : List PySem.Str} {mean : ExcName → Option Value} {mg mb : Map}
    {l : Addr} {vs : List Value} {ns : List Int} {tw : Tok}
    (X : (hd.heap_39 w.params).In s.heap) (T : Top p loose mean mg mb s.heap) (hl : s.heap.IsList l vs.toArray) (hi : IntsAre vs ns) (hlen : ns.length ≤ 10) (hb : ∀ n ∈ ns, 0 ≤ n ∧ n < 1114112)
    (h : ∀ l' vs' h' tk', s.heap.StaysIn h' → s.heap.get? l' = none → h'.get? l' = some (W.listOf vs'.toArray 0) → IntsAre vs' (wideL 4 false ns) → R (.ok (.ret (.ref l'))) { s with heap := h', toks := tk' }) :
    codeAny (model prog w) (callerA.deeper env) (.call (.ref 47) ⟨[.ref l, .int 4 tw, .bool false], []⟩) R s := by
  have hlen0 := hi.length
  obtain ⟨lo, hlo, hlc, ln, hld⟩ := id hl
  refine' pure_callC (K := hd.heap_39 w.params) [(Str.ofString "codes", .ref l), (Str.ofString "width", .int 4 tw), (Str.ofString "little", .bool false)] X T ?k6 ?k7 ?k8 ?k9 ?kB ?kD ?_ ?c2 ?c3 ?c4
  case k6 => k_is
  case k7 => k_is
  case k8 => k_room
  case k9 => exact BindsTo.of_eq rfl
  case kB => exact rfl
  case kD => decide +kernel
  case c2 => exact rfl
  case c3 => exact rfl
  case c4 => exact rfl
  intro h₁ tk₀ cells F N Y
  have hY := CellsAre.one Y
  obtain ⟨oc, hE, d1⟩ := hY
  subst hE
  clear Y
  replace F : Fr s.heap s.heap.objs.size h₁ (fun y => if y = Str.ofString "little" then some (.bool false) else if y = Str.ofString "width" then some (.int 4 tw) else if y = Str.ofString "codes" then some (.ref l) else none) := F
  replace d1 : oc.data = .cell none := d1
  change wpAny _ _ _ _ _ _
  k_fold
  k_with_none
  k_with "my loop" => (
    refine' for_list (lo := lo) (vs := vs) (n := ln) (WideJ l (s.heap.objs.size + 1) 4 tw false ns) ?hh ?F ?N ?H ?hc ?hd ?h0 ?turn ?done
    case hh => exact rfl
    case F => k_asm
    case N => k_asm
    case H => exact Or.inl hlo
    case hc => exact hlc
    case hd => exact hld
    case h0 =>
      refine ⟨_, [], none, none, none, oc, none, rfl, d1, ?_, IntsAre.nil, Nat.le_refl _⟩
      funext z
      unfold wideM
      by_cases h1 : z = Str.ofString "row"
      · rw [if_pos h1, if_pos h1]
      · rw [if_neg h1, if_neg h1]
        by_cases h2 : z = Str.ofString "code"
        · subst h2; rfl
        · rw [if_neg h2]
          by_cases h3 : z = Str.ofString "units"
          · subst h3; rfl
          · rw [if_neg h3]
            by_cases h4 : z = Str.ofString "part"
            · subst h4; rfl
            · rw [if_neg h4]
    case' turn =>
      rintro i v m₁ nx I oI h₂ tk₂ hv ⟨l', vs', u1, u2, u4, oc', cv, rfl, hcv, rfl, hi', hlen'⟩ hIc hId F₁ N₁
      obtain ⟨n, t, rfl, hn⟩ := ints_at hi hv
      obtain ⟨hn0, hn1⟩ := hb n (List.mem_of_getElem? hn)
      have hil : i < ns.length := (List.getElem?_eq_some_iff.mp hn).1
      have hne1 := neN (news_ne N₁ (List.Mem.head _) (List.Mem.tail _ (List.Mem.tail _ (List.Mem.head _))) (cell_ne hId hcv).symm)
      have hne2 := neN (news_ne N₁ (List.Mem.tail _ (List.Mem.head _)) (List.Mem.tail _ (List.Mem.tail _ (List.Mem.head _))) (cell_ne_list hcv).symm)
      unfold wideM at F₁
      try k_fold
    case' done =>
      rintro m' nx h₂ tk₂ ⟨l', vs', u1, u2, u4, oc', cv, rfl, hcv, rfl, hi', hlen'⟩ F₁ N₁
      unfold wideM at F₁)
  k_steps
  · rename Fr _ _ _ _ => F'
    rename News _ _ _ _ => N'
    rw [hlen0, List.take_length] at hi'
    exact h l' vs' _ _ F'.keep (N'.fresh (.head _)) (N'.get (.head _)) hi'
  all_goals (
    rename Fr _ _ _ _ => F'
    rename News _ _ _ _ => N'
    rename IntsAre _ (_ ++ _) => hI'
    refine wide_end (by decide) hn hlen' F' N' (by k_mem) (List.Mem.head _) (by k_mem) (by assumption) hIc hId rfl ?_ ?_
    · intro z h1 h2 h3 h4
      simp only [if_neg h1, if_neg h2, if_neg h3, if_neg h4]
    · first
        | exact wide_ints2 hn ⟨rfl, by assumption⟩ rfl rfl hI'
        | exact wide_ints1 hn (by omega) rfl hI')
end Mine

namespace Mine
theorem off_P6 : True := by
  w_top off
  trivial
local macro_rules | `(tactic| walk_at "isTrue Call") => `(tactic| k_dflt (refine' isTrue_plain ?_ ?ghe; (case ghe => exact rfl)))
local macro_rules | `(tactic| walk_at "isTrue Subscript") => `(tactic| k_dflt (refine' isTrue_plain ?_ ?ghe; (case ghe => exact rfl)))
local macro_rules | `(tactic| walk_at "getAttr") => `(tactic| k_dflt (refine' bv_attr ?gH ?gF ?gN ?_; (case gH => assumption); (case gF => k_asm); (case gN => k_asm); intro x' id' h' k' S' F' N'))
local macro_rules | `(tactic| walk_at "callWith ref") => `(tactic| k_dflt (refine' callWith_bound1 ?gN ?gm ?_ ?ge ?gp; (case gN => k_asm); (case gm => k_mem); (case ge => exact rfl); (case gp => exact rfl)))
local macro_rules | `(tactic| walk_at "And") => `(tactic| ((with_reducible show BoundAt _ _ _ _ ∧ _); k_dflt (refine' ⟨boundAt_of ?gN ?gm, ?_⟩; (case gN => k_asm); (case gm => k_mem); (try dsimp only [List.nil_append, List.cons_append]))))
local macro_rules | `(tactic| walk_at "call ref") => `(tactic| k_dflt (first
  | (refine' bv_sw2 [0, 0, 254, 255] [255, 254, 0, 0] ?gH ?gS ?gb ?gF ?gN ?gm ?ga ?gp ?gq ?gpi ?gqi ?_ ?_; (case gH => assumption); (case gS => assumption); (case gb => assumption); (case gF => k_asm); (case gN => k_asm); (case gm => k_mem); (case ga => k_mem); (case gp => decide); (case gq => decide); (case gpi => (unfold Byt; decide)); (case gqi => (unfold Byt; decide)); all_goals intro hsw')
  | (refine' bv_sw2 [254, 255] [255, 254] ?gH ?gS ?gb ?gF ?gN ?gm ?ga ?gp ?gq ?gpi ?gqi ?_ ?_; (case gH => assumption); (case gS => assumption); (case gb => assumption); (case gF => k_asm); (case gN => k_asm); (case gm => k_mem); (case ga => k_mem); (case gp => decide); (case gq => decide); (case gpi => (unfold Byt; decide)); (case gqi => (unfold Byt; decide)); all_goals intro hsw')
  | (refine' bv_sw1 [239, 187, 191] ?gH ?gS ?gb ?gF ?gN ?gm ?gp ?gpi ?_ ?_; (case gH => assumption); (case gS => assumption); (case gb => assumption); (case gF => k_asm); (case gN => k_asm); (case gm => k_mem); (case gp => decide); (case gpi => (unfold Byt; decide)); all_goals intro hsw')))
local macro_rules | `(tactic| walk_at "call builtin:len") => `(tactic| k_dflt (refine' bv_len ?gH ?gF ?gz ?_; (case gH => assumption); (case gF => k_asm); (case gz => omega); intro t' k'))
local macro_rules | `(tactic| walk_at "subscriptTail") => `(tactic| k_dflt (refine' bv_item ?gH ?gb ?gF ?gz ?g0 ?g1 ?_ ?gs; (case gH => assumption); (case gb => assumption); (case gF => k_asm); (case gz => omega); (case g0 => decide); (case g1 => omega); (case gs => rfl); intro t' k'))

def detS (ns : List Int) : PySem.Str :=
  if List.take 4 ns = [0, 0, 254, 255] ∨ List.take 4 ns = [255, 254, 0, 0] then Str.ofString "utf-32"
  else if List.take 2 ns = [254, 255] ∨ List.take 2 ns = [255, 254] then Str.ofString "utf-16"
  else if List.take 3 ns = [239, 187, 191] then Str.ofString "utf-8-sig"
  else if 4 ≤ ns.length then
    (if ns.getD 0 0 = 0 then (if ns.getD 1 0 = 0 then Str.ofString "utf-32-be" else Str.ofString "utf-16-be")
     else if ns.getD 1 0 = 0 then (if ns.getD 2 0 = 0 then (if ns.getD 3 0 = 0 then Str.ofString "utf-32-le" else Str.ofString "utf-16-le") else Str.ofString "utf-16-le")
     else Str.ofString "utf-8")
  else if ns.length = 2 then
    (if ns.getD 0 0 = 0 then Str.ofString "utf-16-be"
     else if ns.getD 1 0 = 0 then Str.ofString "utf-16-le"
     else Str.ofString "utf-8")
  else Str.ofString "utf-8"

theorem detect_call {prog : Program} {w : World} {env : Env} {R : Result → Shared → Prop} {s : Shared} {p : Program} {loose : List PySem.Str} {mean : ExcName → Option Value} {mg mb : Map}
    {v : Value} {ns : List Int}
    (X : (hd.heap_39 w.params).In s.heap) (T : Top p loose mean mg mb s.heap) (H : BV s.heap v ns) (hb : Byt ns) (hlen : ns.length ≤ 1000)
    (h : ∀ t h' tk', s.heap.StaysIn h' → R (.ok (.ret (.str (detS ns) t))) { s with heap := h', toks := tk' }) :
    codeAny (model prog w) (callerA.deeper env) (.call (.ref 21) ⟨[v], []⟩) R s := by
  refine' pure_call (K := hd.heap_39 w.params) [(Str.ofString "b", v)] (fun z => if z = Str.ofString "b" then some v else none) X T ?k6 ?k7 ?k8 ?k9 ?kB ?km ?_ ?c2 ?c3 ?c4 ?c5
  case k6 => k_is
  case k7 => k_is
  case k8 => k_room
  case k9 => exact BindsTo.of_eq rfl
  case kB => exact locs rfl
  case km => intro y; exact look1 _ _ _
  case c2 => exact rfl
  case c3 => exact rfl
  case c4 => exact rfl
  case c5 => decide
  intro h₁ F N
  k_fold
  k_with_none
  k_steps
  all_goals (
    rename Fr _ _ _ _ => F'
    refine ret_str (R := R) (a := detS ns) ?_ (h _ _ _ F'.keep)
    unfold detS
    (repeat (first
      | refine (if_pos (by first | assumption | omega)).trans ?_
      | refine (if_neg (by first | assumption | omega)).trans ?_))
    rfl)
end Mine

namespace Mine
theorem off_D1 : True := by
  w_top off
  trivial
theorem noths_cons (a : Int) (r : List Int) : nothsN (a :: r) = if a = 0 then nothsN r + 1 else 0 := rfl
theorem noths_nil : nothsN [] = 0 := rfl
theorem named_det (ns : List Int) : namedS ns = detS ns := by
  unfold namedS detS
  by_cases h1 : List.take 4 ns = [0, 0, 254, 255]
  · rw [if_pos h1, if_pos (Or.inl h1)]
  by_cases h2 : List.take 4 ns = [255, 254, 0, 0]
  · rw [if_neg h1, if_pos h2, if_pos (Or.inr h2)]
  by_cases h3 : List.take 2 ns = [254, 255]
  · rw [if_neg h1, if_neg h2, if_neg (not_or.mpr ⟨h1, h2⟩), if_pos h3, if_pos (Or.inl h3)]
  by_cases h4 : List.take 2 ns = [255, 254]
  · rw [if_neg h1, if_neg h2, if_neg (not_or.mpr ⟨h1, h2⟩), if_neg h3, if_pos h4, if_pos (Or.inr h4)]
  by_cases h5 : List.take 3 ns = [239, 187, 191]
  · rw [if_neg h1, if_neg h2, if_neg (not_or.mpr ⟨h1, h2⟩), if_neg h3, if_neg h4, if_neg (not_or.mpr ⟨h3, h4⟩), if_pos h5, if_pos h5]
  rw [if_neg h1, if_neg h2, if_neg (not_or.mpr ⟨h1, h2⟩), if_neg h3, if_neg h4, if_neg (not_or.mpr ⟨h3, h4⟩), if_neg h5, if_neg h5]
  clear h1 h2 h3 h4 h5
  match ns with
  | [] => rfl
  | [a] => rfl
  | [a, b] =>
    simp only [List.take, List.drop, List.length_cons, List.length_nil, noths_cons, noths_nil, List.getD_cons_zero, List.getD_cons_succ]
    by_cases ha : a = 0 <;> by_cases hb : b = 0 <;> simp [ha, hb, noths_cons, noths_nil]
  | [a, b, c] => rfl
  | a :: b :: c :: d :: r =>
    have e : min 4 (a :: b :: c :: d :: r).length - 1 = 3 := by simp only [List.length_cons]; omega
    rw [e, if_neg (by simp only [List.length_cons]; omega), if_pos (by simp only [List.length_cons]; omega : 4 ≤ (a :: b :: c :: d :: r).length)]
    have e2 : 2 < (a :: b :: c :: d :: r).length := by simp only [List.length_cons]; omega
    simp only [List.take, List.drop, e2, noths_cons, noths_nil, List.getD_cons_zero, List.getD_cons_succ, and_true]
    by_cases ha : a = 0 <;> by_cases hb : b = 0 <;> by_cases hc : c = 0 <;> by_cases hd' : d = 0 <;> simp [ha, hb, hc, hd', noths_cons, noths_nil]
end Mine

namespace Mine
theorem off_D2 : True := by
  w_top off
  trivial
def Cd (c : Int) : Prop := 1 ≤ c ∧ c < 1114112 ∧ ¬ (55295 < c ∧ c < 57344)
theorem fdE (a : Int) {b : Int} (h : 0 ≤ b := by decide) : Int.fdiv a b = a / b := Int.fdiv_eq_ediv_of_nonneg a h
theorem fmE (a : Int) {b : Int} (h : 0 ≤ b := by decide) : Int.fmod a b = a % b := Int.fmod_eq_emod_of_nonneg a h
theorem byt_app {a b : List Int} (ha : Byt a) (hb : Byt b) : Byt (a ++ b) := fun n hn => (List.mem_append.mp hn).elim (ha n) (hb n)
theorem byt_nil : Byt [] := fun _ h => nomatch h
theorem byt_cons {x : Int} {a : List Int} (hx : 0 ≤ x ∧ x < 256) (ha : Byt a) : Byt (x :: a) := fun n hn => by
  rcases List.mem_cons.mp hn with rfl | hn
  · exact hx
  · exact ha n hn
theorem eightsC_byt {c : Int} (h0 : 0 ≤ c) (h1 : c < 1114112) : Byt (eightsC c) := by
  unfold eightsC
  simp only [fdE _ (show (0:Int) ≤ 64 by decide), fdE _ (show (0:Int) ≤ 4096 by decide), fdE _ (show (0:Int) ≤ 262144 by decide), fmE _ (show (0:Int) ≤ 64 by decide)]
  split
  · exact byt_cons (by omega) byt_nil
  · split
    · exact byt_cons (by omega) (byt_cons (by omega) byt_nil)
    · split
      · exact byt_cons (by omega) (byt_cons (by omega) (byt_cons (by omega) byt_nil))
      · exact byt_cons (by omega) (byt_cons (by omega) (byt_cons (by omega) (byt_cons (by omega) byt_nil)))
theorem eightsL_cons (c : Int) (r : List Int) : eightsL (c :: r) = eightsC c ++ eightsL r := by unfold eightsL; rw [List.flatMap_cons]
theorem eightsL_byt : ∀ {ns : List Int}, (∀ n ∈ ns, 0 ≤ n ∧ n < 1114112) → Byt (eightsL ns)
  | [], _ => byt_nil
  | c :: r, h => by
    rw [eightsL_cons]
    exact byt_app (eightsC_byt (h c (.head _)).1 (h c (.head _)).2) (eightsL_byt fun n hn => h n (.tail _ hn))
theorem eightsL_len : ∀ (ns : List Int), (eightsL ns).length ≤ 4 * ns.length
  | [] => Nat.le_refl _
  | c :: r => by
    rw [eightsL_cons, List.length_append, List.length_cons]
    have := eightsC_len c
    have := eightsL_len r
    omega
/-- the first byte of a sign's writing is no nothing, nor is any -/
theorem eightsC_nz {c : Int} (h : Cd c) : ∀ n ∈ eightsC c, 1 ≤ n := by
  obtain ⟨h0, h1, _⟩ := h
  unfold eightsC
  simp only [fdE _ (show (0:Int) ≤ 64 by decide), fdE _ (show (0:Int) ≤ 4096 by decide), fdE _ (show (0:Int) ≤ 262144 by decide), fmE _ (show (0:Int) ≤ 64 by decide)]
  intro n hn
  split at hn
  · simp only [List.mem_cons, List.not_mem_nil, or_false] at hn; omega
  · split at hn
    · simp only [List.mem_cons, List.not_mem_nil, or_false] at hn; omega
    · split at hn <;> (simp only [List.mem_cons, List.not_mem_nil, or_false] at hn; omega)
theorem eightsL_nz : ∀ {ns : List Int}, (∀ n ∈ ns, Cd n) → ∀ n ∈ eightsL ns, 1 ≤ n
  | [], _ => fun _ h => nomatch h
  | c :: r, h => by
    rw [eightsL_cons]
    intro n hn
    rcases List.mem_append.mp hn with hn | hn
    · exact eightsC_nz (h c (.head _)) n hn
    · exact eightsL_nz (fun n hn => h n (.tail _ hn)) n hn
theorem det_plain {x : Int} {r : List Int} (h0 : 1 ≤ x) (h1 : x ≤ 127) (hr : ∀ n ∈ r, 1 ≤ n) : detS (x :: r) = Str.ofString "utf-8" := by
  unfold detS
  match r, hr with
  | [], _ =>
    simp only [List.take, List.length_cons, List.length_nil, List.cons.injEq]
    simp (decide := true)
  | [b], hr =>
    have hb := hr b (.head _)
    simp only [List.take, List.length_cons, List.length_nil, List.cons.injEq, List.getD_cons_zero, List.getD_cons_succ]
    rw [if_neg (by simp (decide := true)), if_neg (by omega), if_neg (by simp (decide := true)), if_neg (by decide), if_pos (by decide), if_neg (by omega), if_neg (by omega)]
  | [b, c], hr =>
    have hb := hr b (.head _)
    simp only [List.take, List.length_cons, List.length_nil, List.cons.injEq, List.getD_cons_zero, List.getD_cons_succ]
    rw [if_neg (by simp (decide := true)), if_neg (by omega), if_neg (by omega), if_neg (by decide), if_neg (by decide)]
  | b :: c :: d :: r, hr =>
    have hb := hr b (.head _)
    simp only [List.take, List.length_cons, List.length_nil, List.cons.injEq, List.getD_cons_zero, List.getD_cons_succ]
    rw [if_neg (by omega), if_neg (by omega), if_neg (by omega), if_pos (by omega), if_neg (by omega), if_neg (by omega)]
theorem det_eights {c : Int} {r : List Int} (h0 : 1 ≤ c) (h1 : c ≤ 127) (hr : ∀ n ∈ r, Cd n) : detS (eightsL (c :: r)) = Str.ofString "utf-8" := by
  rw [eightsL_cons]
  unfold eightsC
  rw [if_pos (by omega)]
  exact det_plain h0 h1 (eightsL_nz hr)
theorem det_sig (r : List Int) : detS ([239, 187, 191] ++ r) = Str.ofString "utf-8-sig" := by
  unfold detS
  simp only [List.cons_append, List.nil_append, List.take, List.cons.injEq]
  rw [if_neg (by omega), if_neg (by omega), if_pos (by decide)]
theorem partC_byt (wd : Int) (l : Bool) (u : Int) : Byt (partC wd l u) := by
  have h : ∀ n ∈ (rangeKs 0 (wd - 0).toNat).map (fun k => Int.fmod (Int.fdiv u (256 ^ k.toNat)) 256), 0 ≤ n ∧ n < 256 := by
    intro n hn
    obtain ⟨st, _, rfl⟩ := List.mem_map.mp hn
    exact ⟨Int.fmod_nonneg_of_pos _ (by decide), Int.fmod_lt_of_pos _ (by decide)⟩
  unfold partC
  cases l
  · exact fun n hn => h n (List.mem_reverse.mp hn)
  · exact h
theorem wideL_byt (wd : Int) (l : Bool) (ns : List Int) : Byt (wideL wd l ns) := by
  intro n hn
  unfold wideL wideC at hn
  obtain ⟨c, _, hn⟩ := List.mem_flatMap.mp hn
  obtain ⟨u, _, hn⟩ := List.mem_flatMap.mp hn
  exact partC_byt wd l u n hn
theorem partC_len2 (l : Bool) (u : Int) : (partC 2 l u).length = 2 := by cases l <;> rfl
theorem partC_len4 (l : Bool) (u : Int) : (partC 4 l u).length = 4 := by cases l <;> rfl
theorem wideL_cons (wd : Int) (l : Bool) (c : Int) (r : List Int) : wideL wd l (c :: r) = wideC wd l c ++ wideL wd l r := by unfold wideL; rw [List.flatMap_cons]
theorem wideC_one {wd : Int} {l : Bool} {c : Int} (h : ¬ (((wd : Int) : Int) = 2 ∧ 65535 < c)) : wideC wd l c = partC wd l c := by
  unfold wideC unitsC
  rw [if_neg h]
  simp
theorem wideC_two {l : Bool} {c : Int} (h : 65535 < c) : wideC 2 l c = partC 2 l (55296 + Int.fdiv (c - 65536) 1024) ++ partC 2 l (56320 + Int.fmod (c - 65536) 1024) := by
  unfold wideC unitsC
  rw [if_pos ⟨rfl, h⟩]
  simp
theorem wideC_len {wd : Int} (hw : wd = 2 ∨ wd = 4) (l : Bool) (c : Int) : (wideC wd l c).length ≤ 4 := by
  rcases hw with rfl | rfl
  · by_cases h : 65535 < c
    · rw [wideC_two h, List.length_append, partC_len2, partC_len2]
      decide
    · rw [wideC_one (fun x => h x.2), partC_len2]
      decide
  · rw [wideC_one (fun x => absurd x.1 (by decide)), partC_len4]
    decide
theorem wideL_len {wd : Int} (hw : wd = 2 ∨ wd = 4) (l : Bool) : ∀ (ns : List Int), (wideL wd l ns).length ≤ 4 * ns.length
  | [] => Nat.le_refl _
  | c :: r => by
    rw [wideL_cons, List.length_append, List.length_cons]
    have := wideC_len hw l c
    have := wideL_len hw l r
    omega
theorem part2t (u : Int) : partC 2 true u = [u % 256, u / 256 % 256] := by
  show [Int.fmod (Int.fdiv u 1) 256, Int.fmod (Int.fdiv u 256) 256] = _
  simp only [fdE _ (show (0:Int) ≤ 1 by decide), fdE _ (show (0:Int) ≤ 256 by decide), fmE _ (show (0:Int) ≤ 256 by decide), Int.ediv_one]
theorem part2f (u : Int) : partC 2 false u = [u / 256 % 256, u % 256] := by
  show [Int.fmod (Int.fdiv u 256) 256, Int.fmod (Int.fdiv u 1) 256] = _
  simp only [fdE _ (show (0:Int) ≤ 1 by decide), fdE _ (show (0:Int) ≤ 256 by decide), fmE _ (show (0:Int) ≤ 256 by decide), Int.ediv_one]
theorem part4t (u : Int) : partC 4 true u = [u % 256, u / 256 % 256, u / 65536 % 256, u / 16777216 % 256] := by
  show [Int.fmod (Int.fdiv u 1) 256, Int.fmod (Int.fdiv u 256) 256, Int.fmod (Int.fdiv u 65536) 256, Int.fmod (Int.fdiv u 16777216) 256] = _
  simp only [fdE _ (show (0:Int) ≤ 1 by decide), fdE _ (show (0:Int) ≤ 256 by decide), fdE _ (show (0:Int) ≤ 65536 by decide), fdE _ (show (0:Int) ≤ 16777216 by decide), fmE _ (show (0:Int) ≤ 256 by decide), Int.ediv_one]
theorem part4f (u : Int) : partC 4 false u = [u / 16777216 % 256, u / 65536 % 256, u / 256 % 256, u % 256] := by
  show [Int.fmod (Int.fdiv u 16777216) 256, Int.fmod (Int.fdiv u 65536) 256, Int.fmod (Int.fdiv u 256) 256, Int.fmod (Int.fdiv u 1) 256] = _
  simp only [fdE _ (show (0:Int) ≤ 1 by decide), fdE _ (show (0:Int) ≤ 256 by decide), fdE _ (show (0:Int) ≤ 65536 by decide), fdE _ (show (0:Int) ≤ 16777216 by decide), fmE _ (show (0:Int) ≤ 256 by decide), Int.ediv_one]
/-- the second sign's first unit is no nothing -/
theorem wide2t_head {c : Int} (h : Cd c) (r : List Int) : ∃ x y q, wideL 2 true (c :: r) = x :: y :: q ∧ ¬ (x = 0 ∧ y = 0) := by
  obtain ⟨h0, h1, _⟩ := h
  rw [wideL_cons]
  by_cases h : 65535 < c
  · rw [wideC_two h, part2t]
    refine ⟨_, _, _, rfl, ?_⟩
    rw [fdE _ (by decide)]
    omega
  · rw [wideC_one (fun x => h x.2), part2t]
    refine ⟨_, _, _, rfl, ?_⟩
    omega
theorem det_2t {c : Int} {r : List Int} (h0 : 1 ≤ c) (h1 : c ≤ 127) (hr : ∀ n ∈ r, Cd n) : detS (wideL 2 true (c :: r)) = Str.ofString "utf-16-le" := by
  rw [wideL_cons, wideC_one (by omega), part2t, show c % 256 = c by omega, show c / 256 % 256 = 0 by omega]
  cases r with
  | nil =>
    show detS [c, 0] = _
    unfold detS
    simp only [List.take, List.length_cons, List.length_nil, List.cons.injEq, List.getD_cons_zero, List.getD_cons_succ]
    rw [if_neg (by simp (decide := true)), if_neg (by omega), if_neg (by simp (decide := true)), if_neg (by decide), if_pos (by decide), if_neg (by omega), if_pos trivial]
  | cons d r =>
    obtain ⟨x, y, q, e, hxy⟩ := wide2t_head (hr d (.head _)) r
    rw [e]
    show detS (c :: 0 :: x :: y :: q) = _
    unfold detS
    simp only [List.take, List.length_cons, List.length_nil, List.cons.injEq, List.getD_cons_zero, List.getD_cons_succ]
    rw [if_neg (by omega), if_neg (by omega), if_neg (by omega), if_pos (by omega), if_neg (by omega), if_pos trivial]
    split
    · split
      · exact absurd ⟨by assumption, by assumption⟩ hxy
      · rfl
    · rfl
theorem wide2f_head (c : Int) (r : List Int) : ∃ x y q, wideL 2 false (c :: r) = x :: y :: q := by
  rw [wideL_cons]
  by_cases h : 65535 < c
  · rw [wideC_two h, part2f]
    exact ⟨_, _, _, rfl⟩
  · rw [wideC_one (fun x => h x.2), part2f]
    exact ⟨_, _, _, rfl⟩
theorem det_2f {c : Int} {r : List Int} (h0 : 1 ≤ c) (h1 : c ≤ 127) : detS (wideL 2 false (c :: r)) = Str.ofString "utf-16-be" := by
  rw [wideL_cons, wideC_one (by omega), part2f, show c % 256 = c by omega, show c / 256 % 256 = 0 by omega]
  cases r with
  | nil =>
    show detS [0, c] = _
    unfold detS
    simp only [List.take, List.length_cons, List.length_nil, List.cons.injEq, List.getD_cons_zero, List.getD_cons_succ]
    rw [if_neg (by simp (decide := true)), if_neg (by omega), if_neg (by simp (decide := true)), if_neg (by decide), if_pos (by decide), if_pos trivial]
  | cons d r =>
    obtain ⟨x, y, q, e⟩ := wide2f_head d r
    rw [e]
    show detS (0 :: c :: x :: y :: q) = _
    unfold detS
    simp only [List.take, List.length_cons, List.length_nil, List.cons.injEq, List.getD_cons_zero, List.getD_cons_succ]
    rw [if_neg (by omega), if_neg (by omega), if_neg (by omega), if_pos (by omega), if_pos trivial, if_neg (by omega)]
theorem det_4t {c : Int} {r : List Int} (h0 : 1 ≤ c) (h1 : c ≤ 127) : detS (wideL 4 true (c :: r)) = Str.ofString "utf-32-le" := by
  rw [wideL_cons, wideC_one (by omega), part4t, show c % 256 = c by omega, show c / 256 % 256 = 0 by omega, show c / 65536 % 256 = 0 by omega, show c / 16777216 % 256 = 0 by omega]
  generalize wideL 4 true r = q
  show detS (c :: 0 :: 0 :: 0 :: q) = _
  unfold detS
  simp only [List.take, List.length_cons, List.length_nil, List.cons.injEq, List.getD_cons_zero, List.getD_cons_succ]
  rw [if_neg (by omega), if_neg (by omega), if_neg (by omega), if_pos (by omega), if_neg (by omega), if_pos trivial, if_pos trivial, if_pos trivial]
theorem det_4f {c : Int} {r : List Int} (h0 : 1 ≤ c) (h1 : c ≤ 127) : detS (wideL 4 false (c :: r)) = Str.ofString "utf-32-be" := by
  rw [wideL_cons, wideC_one (by omega), part4f, show c % 256 = c by omega, show c / 256 % 256 = 0 by omega, show c / 65536 % 256 = 0 by omega, show c / 16777216 % 256 = 0 by omega]
  generalize wideL 4 false r = q
  show detS (0 :: 0 :: 0 :: c :: q) = _
  unfold detS
  simp only [List.take, List.length_cons, List.length_nil, List.cons.injEq, List.getD_cons_zero, List.getD_cons_succ]
  rw [if_neg (by omega), if_neg (by omega), if_neg (by omega), if_pos (by omega), if_pos trivial, if_pos trivial]
theorem det_m2t {c : Int} {r : List Int} (h0 : 1 ≤ c) (h1 : c ≤ 127) : detS (wideL 2 true (65279 :: c :: r)) = Str.ofString "utf-16" := by
  rw [wideL_cons, wideL_cons, wideC_one (by omega), wideC_one (by omega), part2t, part2t, show c % 256 = c by omega, show c / 256 % 256 = 0 by omega]
  generalize wideL 2 true r = q
  show detS (255 :: 254 :: c :: 0 :: q) = _
  unfold detS
  simp only [List.take, List.length_cons, List.length_nil, List.cons.injEq]
  rw [if_neg (by omega), if_pos (by simp)]
theorem det_m2f {c : Int} {r : List Int} (h0 : 1 ≤ c) (h1 : c ≤ 127) : detS (wideL 2 false (65279 :: c :: r)) = Str.ofString "utf-16" := by
  rw [wideL_cons, wideL_cons, wideC_one (by omega), wideC_one (by omega), part2f, part2f, show c % 256 = c by omega, show c / 256 % 256 = 0 by omega]
  generalize wideL 2 false r = q
  show detS (254 :: 255 :: 0 :: c :: q) = _
  unfold detS
  simp only [List.take, List.length_cons, List.length_nil, List.cons.injEq]
  rw [if_neg (by omega), if_pos (by simp)]
theorem det_m4t (r : List Int) : detS (wideL 4 true (65279 :: r)) = Str.ofString "utf-32" := by
  rw [wideL_cons, wideC_one (by omega), part4t]
  generalize wideL 4 true r = q
  show detS (255 :: 254 :: 0 :: 0 :: q) = _
  unfold detS
  simp only [List.take, List.length_cons, List.length_nil, List.cons.injEq]
  rw [if_pos (by simp)]
theorem det_m4f (r : List Int) : detS (wideL 4 false (65279 :: r)) = Str.ofString "utf-32" := by
  rw [wideL_cons, wideC_one (by omega), part4f]
  generalize wideL 4 false r = q
  show detS (0 :: 0 :: 254 :: 255 :: q) = _
  unfold detS
  simp only [List.take, List.length_cons, List.length_nil, List.cons.injEq]
  rw [if_pos (by simp)]
end Mine

namespace Mine
open Sem (wp)
theorem off_C1 : True := by
  w_top off
  trivial
/-! contexts in which no decoder stands that could hold an object's bytes -/
def isDec : Code → Bool
  | .builtin id _ => Builtin.Bytes.decodersThatHold.contains id
  | _ => false
def CleanB (l : List (Code × Pos)) : Prop := ∀ x ∈ l, isDec x.1 = false
theorem CleanB.cons {c : Code} {p : Pos} {l : List (Code × Pos)} (h : isDec c = false) (hl : CleanB l) : CleanB ((c, p) :: l) := by
  intro x hx
  rcases List.mem_cons.mp hx with rfl | hx
  · exact h
  · exact hl x hx
def wpC {α : Type} (M : Model) (A : Around) (t : Sem α) (Q : α → Shared → Prop) (E : Value → Shared → Prop) (s : Shared) : Prop :=
  ∀ Γ p, Γ.In A → isDec Γ.code = false → CleanB Γ.below → wp M Γ t (fun a _ s' => Q a s') (fun e _ s' => E e s') p s
def codeC (M : Model) (A : Around) (c : Code) (R : Result → Shared → Prop) (s : Shared) : Prop :=
  ∀ Γ p, Γ.code = c → Γ.Below A → CleanB Γ.below → wpCode M Γ R p s
abbrev noE : Value → Shared → Prop := fun _ _ => False
abbrev okR (Q : Flow → Shared → Prop) (r : Result) (s : Shared) : Prop := match r with | .ok f => Q f s | .error _ => False

section
variable {α β : Type} {M : Model} {A : Around} {E : Value → Shared → Prop} {s : Shared}
theorem wpC_any {t : Sem α} {Q : α → Shared → Prop} (h : wpAny M A t Q E s) : wpC M A t Q E s := fun Γ p hΓ _ _ => h Γ p hΓ
theorem codeC_any {c : Code} {R : Result → Shared → Prop} (h : codeAny M A c R s) : codeC M A c R s := fun Γ p hc hΓ _ => h Γ p hc hΓ
theorem wpC_pure {a : α} {Q : α → Shared → Prop} (h : Q a s) : wpC M A (pure a) Q E s := fun _ _ _ _ _ => h
theorem wpC_mono {t : Sem α} {Q Q' : α → Shared → Prop} {E' : Value → Shared → Prop} (h : wpC M A t Q E s)
    (hQ : ∀ a s, Q a s → Q' a s) (hE : ∀ e s, E e s → E' e s) : wpC M A t Q' E' s :=
  fun Γ p hΓ hc hl => Sem.wp_mono M Γ t (fun a _ s => hQ a s) (fun e _ s => hE e s) p s (h Γ p hΓ hc hl)
theorem wpC_bind {m : Sem α} {f : α → Sem β} {Q : β → Shared → Prop} (h : wpC M A m (fun a s' => wpC M A (f a) Q E s') E s) : wpC M A (m >>= f) Q E s := fun Γ p hΓ hc hl => by
  rw [Sem.wp_bind']
  exact Sem.wp_mono M Γ m (fun a p' s' h' => h' Γ p' hΓ hc hl) (fun _ _ _ h' => h') p s (h Γ p hΓ hc hl)
theorem wpC_onRaise {m : Sem α} {k : Value → Sem Unit} {Q : α → Shared → Prop} (h : wpC M A m Q noE s) : wpC M A (m.onRaise k) Q E s := fun Γ p hΓ hc hl => by
  rw [Sem.wp_onRaise]
  exact Sem.wp_mono M Γ m (fun _ _ _ h' => h') (fun _ _ _ h' => h'.elim) p s (h Γ p hΓ hc hl)
theorem wpC_holding {vs : List Value} {m : Sem α} {Q : α → Shared → Prop} (h : wpC M A m Q E s) : wpC M A (holding vs m) Q E s := fun Γ p hΓ hc hl => by
  rw [Sem.wp_holding]; exact h Γ p hΓ hc hl
theorem wpC_run {c : Code} {Q : Flow → Shared → Prop} (hc : codeC M A c (okR Q) s) : wpC M A (run c none) Q E s := fun Γ p hΓ hd hl => by
  rw [Sem.wp_run]
  refine wpCode_mono (fun r s' h' => ?_) (hc _ p rfl (hΓ.enter c none p (by intro x; cases x)) (CleanB.cons hd hl))
  cases r with
  | ok f => exact h'
  | error e => exact h'.elim
theorem wpC_runOwn {c : Code} {env : Env} {Q : Flow → Shared → Prop} (hc : codeC M A c (okR Q) s) : wpC M A (runOwn c env none) Q E s := by
  unfold runOwn
  exact wpC_onRaise (wpC_run hc)
theorem wpC_call {f : Value} {pos : List Value} {kw : List (PySem.Str × Value)} {Q : Value → Shared → Prop}
    (hc : codeC M A (.call f ⟨pos, kw⟩) (fun r s' => match r with | .ok (.ret v) => Q v s' | .ok _ => False | .error e => E e s') s) : wpC M A (call f pos kw) Q E s := fun Γ p hΓ hd hl => by
  show wp M Γ (runValue (.call f ⟨pos, kw⟩)) _ _ p s
  rw [Sem.wp_runValue]
  exact hc _ p rfl (hΓ.enter _ none p (by intro x; cases x)) (CleanB.cons hd hl)
theorem codeC_of_tree {c : Code} {R : Result → Shared → Prop} (hd : isDec c = false)
    (h : wpC M (A.under c) (M.den c) (fun fin s' => match fin with | .done f => R (.ok f) s' | .again c' => c'.quiet = true ∧ codeC M A c' R s')
      (fun e s' => R (.error e) s') s) : codeC M A c R s := fun Γ p hc hΓ hl => by
  rw [wpCode_iff_wp, hc]
  refine Sem.wp_mono M Γ _ (fun fin p' s' h' => ?_) (fun _ _ _ h' => h') p s (h Γ p (hc ▸ hΓ.in) (hc ▸ hd) hl)
  cases fin with
  | done f => exact h'
  | again c' => exact ⟨h'.1, h'.2 (Γ.goto c') p' rfl (hΓ.goto c') hl⟩
theorem codeC_mono {c : Code} {R R' : Result → Shared → Prop} (h : codeC M A c R s) (hR : ∀ r s, R r s → R' r s) : codeC M A c R' s :=
  fun Γ p hc hΓ hl => wpCode_mono hR (h Γ p hc hΓ hl)

theorem wpC_execs_cons {st : Stmt} {rest : List Stmt} {env : Env} {Q : Flow → Shared → Prop}
    (h : wpC M A (exec st env) (fun f s' => match f with | .next => wpC M A (execs rest env) Q E s' | f => Q f s') E s) : wpC M A (execs (st :: rest) env) Q E s := by
  rw [execs_cons]
  refine wpC_bind (wpC_mono h (fun f s' h' => ?_) fun _ _ x => x)
  cases f <;> first | exact h' | exact wpC_pure h'
theorem wpC_If {test : PySem.Expr} {body orelse : List Stmt} {pos : Pos} {env : Env} {Q : Flow → Shared → Prop}
    (h : wpC M A (isTrue test env (eval test env)) (fun b s₂ => if b then wpC M A (execs body env) Q E s₂ else wpC M A (execs orelse env) Q E s₂) E s) :
    wpC M A (exec (.If test body orelse pos) env) Q E s := by
  rw [exec_If]
  refine wpC_bind (wpC_any (wpAny_standAt ?_))
  refine wpC_bind (wpC_mono h (fun b s₂ h₂ => ?_) fun _ _ x => x)
  cases b <;> exact h₂
theorem wpC_or {x : PySem.Expr} {rest : List PySem.Expr} {pos : Pos} {env : Env} {whole : Sem Value} {Q : Bool → Shared → Prop}
    (h : wpC M A (isTrue x env (eval x env)) (fun c s' => if c then Q true s' else wpC M A (isTrue (.BoolOp .Or rest pos) env whole) Q E s') E s) :
    wpC M A (isTrue (.BoolOp .Or (x :: rest) pos) env whole) Q E s := by
  show wpC M A (do
    match BoolOp.Or, ← isTrue x env (eval x env) with
    | .And, false => pure false
    | .Or, true => pure true
    | _, _ => allTrue .Or rest env) Q E s
  refine wpC_bind (wpC_mono h (fun c s' h' => ?_) fun _ _ x => x)
  cases c with
  | true => exact wpC_pure h'
  | false => exact h'
theorem wpC_Compare1 {l r : PySem.Expr} {op : CmpOp} {pos : Pos} {env : Env} {whole : Sem Value} {Q : Bool → Shared → Prop}
    (h : wpC M A (eval l env) (fun a s₁ => wpAny M A (eval r env) (fun b s₂ => wpAny M A (compareOp op a b)
      (fun c s₃ => wpAny M A (truthy c) Q E s₃) E s₂) E s₁) E s)
    (hm : behindInMarks op r = false := by with_unfolding_all rfl) : wpC M A (isTrue (.Compare l [op] [r] pos) env whole) Q E s := fun Γ p hΓ hd hl => by
  simp only [isTrue_Compare1, markedBehindIn_of_false hm, Sem.wp_bind', Sem.wp_holding, Sem.wp_cmd_standAt, Sem.wp_operate]
  exact Sem.wp_mono M Γ _ (fun a p₁ s₁ h₁ => Sem.wp_mono M Γ _ (fun b _ s₂ h₂ => Sem.wp_mono M Γ _ (fun c p₃ s₃ h₃ => h₃ Γ p₃ hΓ)
    (fun _ _ _ h' => h') _ _ (h₂ Γ _ hΓ)) (fun _ _ _ h' => h') _ _ (h₁ Γ p₁ hΓ)) (fun _ _ _ h' => h') _ _ (h Γ p hΓ hd hl)
theorem wpC_For {target iter : PySem.Expr} {body orelse : List Stmt} {pos : Pos} {env : Env} {Q : Flow → Shared → Prop}
    (h : wpAny M A (eval iter env) (fun x s₁ => wpAny M A (pyIter x) (fun it s₂ => codeC M A (.forLoop target it body orelse env) (okR Q) s₂) E s₁) E s)
    (hs : ∀ x, foldedSetIterable iter env x = pure x := by intro _; rfl) : wpC M A (exec (.For target iter body orelse pos) env) Q E s := by
  rw [exec_For]
  refine wpC_bind (wpC_any (wpAny_standAt ?_))
  refine wpC_bind (wpC_any (wpAny_mono h (fun x s₁ h₁ => ?_) fun _ _ x => x))
  refine wpC_bind (wpC_any (wpAny_of_eq (hs x) ?_))
  refine wpC_bind (wpC_any (wpAny_standAt ?_))
  refine wpC_bind (wpC_any (wpAny_holding (wpAny_mono h₁ (fun it s₂ h₂ => ?_) fun _ _ x => x)))
  exact wpC_runOwn h₂
end
end Mine

namespace Mine
open Sem (wp)
theorem off_C2 : True := by
  w_top off
  trivial
section
variable {prog : Program} {w : World} {A : Around} {E : Value → Shared → Prop} {s : Shared}
theorem codeC_forLoop {R : Result → Shared → Prop} {target : PySem.Expr} {it : Value} {body : List Stmt} {env : Env} (I : Nat → Shared → Prop)
    (turn : ∀ n s, I n s → wpAny (model prog w) A (pyNext it) (fun r s₁ => match r with
      | none => R (.ok .next) s₁
      | some v => wpAny (model prog w) A (letOwnedTupleGo target it v) (fun _ s₁' =>
          wpAny (model prog w) A (assign target env v) (fun _ s₂ => wpC (model prog w) A (execs body env) (fun f s₃ => match f with
            | .next | .cont => ∃ m, m < n ∧ I m s₃
            | .brk => R (.ok .next) s₃
            | .ret v => R (.ok (.ret v)) s₃) noE s₂) noE s₁') noE s₁) noE s)
    (n : Nat) (h : I n s) : codeC (model prog w) A (.forLoop target it body [] env) R s := by
  induction n using Nat.strongRecOn generalizing s with
  | ind n ih =>
    refine codeC_of_tree rfl ?_
    show wpC _ A ((forTurn target it body [] env).onRaise (fun x => do noteFrame x env; theTreesLotGoes x)) _ _ s
    refine wpC_onRaise ?_
    simp only [forTurn]
    refine wpC_bind (wpC_any (wpAny_standAt ?_))
    refine wpC_bind (wpC_any (wpAny_onRaise (wpAny_mono (turn n s h) (fun r s₁ h₁ => ?_) fun _ _ x => x.elim)))
    cases r with
    | none => exact wpC_pure ⟨rfl, codeC_any (codeAny_block (wpAny_execs_nil h₁))⟩
    | some v =>
      refine wpC_bind (wpC_any (wpAny_mono h₁ (fun _ s₁' h₁' => ?_) fun _ _ x => x))
      refine wpC_bind (wpC_any (wpAny_mono h₁' (fun _ s₂ h₂ => ?_) fun _ _ x => x))
      refine wpC_bind (wpC_mono h₂ (fun f s₃ h₃ => ?_) fun _ _ x => x)
      cases f with
      | next => obtain ⟨m, hm, hI⟩ := h₃; exact wpC_pure ⟨rfl, ih m hm hI⟩
      | cont => obtain ⟨m, hm, hI⟩ := h₃; exact wpC_pure ⟨rfl, ih m hm hI⟩
      | brk => exact wpC_pure h₃
      | ret v => exact wpC_pure h₃

theorem codeC_func {R : Result → Shared → Prop} {body : List Stmt} {env : Env}
    (h : wpC (model prog w) (A.deeper env) (execs body env) (fun f s' => R (.ok (.ret (match f with | .ret v => v | _ => .none))) s') noE s) : codeC (model prog w) A (.func body env) R s := by
  refine codeC_of_tree rfl ?_
  show wpC _ (A.deeper env) (do point; match ← (execs body env).onRaise (leaving env) with | .ret v => ret v | _ => ret .none) _ _ s
  refine wpC_bind (wpC_any (wpAny_point ?_))
  refine wpC_bind (wpC_onRaise (wpC_mono h (fun f s' h' => ?_) fun _ _ h' => h'))
  cases f <;> exact wpC_pure h'

theorem codeC_call_function {R : Result → Shared → Prop} {a : Addr} {args : Args} {o : Obj} {fd : FuncData} {body : List Stmt} (hroom : A.depth < recursionLimit)
    (ho : s.heap.get? a = some o)
    (hd' : o.data = .func fd) (hco : fd.scope.isCoroutine = false) (hgen : fd.scope.isGenerator = false) (hbody : fd.body = .stmts body) (hcd : s.heap.CodeRec fd.code fd.qualname)
    (h : wpAny (model prog w) A.in1 (bindArgs fd args) (fun binds s₁ =>
      wpAny (model prog w) A.in1 (newFunctionEnv fd.scope fd.globals fd.closure binds (fd.qualname ++ ".<locals>.") (some a) fd.code none fd.builtins)
        (fun env s₂ => s₂.heap.NoLimit ∧ codeC (model prog w) A (.func body env) R s₂) (fun e s' => R (.error e) s') s₁) (fun e s' => R (.error e) s') s) :
    codeC (model prog w) A (.call (.ref a) args) R s := by
  refine codeC_of_tree rfl ?_
  show wpC _ A.in1 (callAny (.ref a) args) _ _ s
  simp only [callAny]
  refine wpC_bind (wpC_any (wpAny_load ho ?_))
  obtain ⟨c, oc, vs, tq, hc, hoc, hdc, hq⟩ := hcd
  simp only [hd', callFunction, hco, hgen, hbody, hc]
  rw [hc] at h
  refine wpC_any (wpAny_bind (m := field (.ref c) 1) (wpAny_field hoc hdc hq (wpAny_bind (wpAny_pure ?_))))
  exact wpAny_bind (wpAny_mono h (fun binds s₁ h₁ => wpAny_bind (wpAny_mono h₁ (fun env s₂ h₂ => wpAny_bind (wpAny_enterFrame h₂.1 hroom
    (wpAny_pure (And.intro rfl h₂.2)))) fun _ _ h' => h')) fun _ _ h' => h')
end

section
variable {M : Model} {A : Around} {E : Value → Shared → Prop} {s : Shared}
theorem wpC_spliced1 {t : Sem Value} {Q : List Value → Shared → Prop} (h : wpC M A t (fun v s' => Q [v] s') E s) : wpC M A (spliced [(false, t)]) Q E s := by
  show wpC M A (t >>= fun v => (pure [v] >>= fun here => (holding here (spliced []) >>= fun r => pure (here ++ r)))) Q E s
  exact wpC_bind (wpC_mono h (fun v s' h' => wpC_bind (wpC_pure (wpC_bind (wpC_holding (wpC_pure (wpC_pure h')))))) fun _ _ x => x)
theorem wpC_evalArgs1 {f : Value} {t : Sem Value} {Q : Args → Shared → Prop} (h : wpC M A t (fun v s' => Q ⟨[v], []⟩ s') E s) : wpC M A (evalArgs f true [(false, t)] []) Q E s := by
  unfold evalArgs
  show wpC M A (spliced [(false, t)] >>= _) Q E s
  refine wpC_bind (wpC_mono (wpC_spliced1 (Q := fun vs s' => Q ⟨vs, []⟩ s') h) (fun vs s' h' => ?_) fun _ _ x => x)
  refine wpC_holding ?_
  exact wpC_bind (wpC_pure (wpC_bind (wpC_pure (wpC_pure h'))))
theorem wpC_callWith_type {pos : Pos} {T : String} {t : Sem Value} {Q : Value → Shared → Prop}
    (h : wpAny M A t (fun v s₁ => wpC M A (call (.type T) [v]) Q E s₁) E s) : wpC M A (callWith pos (.type T) [] [(false, t)] []) Q E s := by
  unfold callWith
  refine wpC_bind (wpC_holding (wpC_mono (wpC_evalArgs1 (Q := fun a s' => wpC M A (call (.type T) a.pos a.kw) Q E s') (wpC_any h)) (fun a s₁ h₁ => wpC_bind (wpC_any (wpAny_standAt ?_))) fun _ _ x => x))
  simp only [List.any_cons, List.any_nil, Bool.or_false, List.nil_append]
  refine wpC_bind (wpC_pure ?_)
  exact wpC_bind (wpC_mono h₁ (fun r s₂ hr => wpC_bind (wpC_holding (wpC_any (wpAny_point (wpC_pure hr))))) fun _ _ x => x)
end
end Mine

namespace Mine
open Sem (wp)
theorem off_C3 : True := by
  w_top off
  trivial
theorem slot_ba_init : Slot "bytearray" "__init__" "bytearray.__init__" :=
  .of (owner := "bytearray") (n := "__init__") (by rw [typeLookup_type, builtinLookup_eq_fast]; kernel_rfl) (by decide +kernel) (by decide +kernel) (by decide +kernel)
    (by first | exact .inl (by decide +kernel) | exact .inr (by decide +kernel)) (by rw [isSubtype_type]; kernel_rfl)
theorem ba_mro : mroOf (.type "bytearray") = pure [.type "bytearray", .type "object"] := by rw [mroOf_type]; kernel_rfl
theorem ba_lookup_new : typeLookup (.type "bytearray") "__new__" = pure (some (.builtin "bytearray.__new__")) := by rw [typeLookup_type, builtinLookup_eq_fast]; kernel_rfl
theorem ba_called : TypeCalled "bytearray" "bytearray.__new__" "bytearray.__init__" :=
  ⟨by decide +kernel, by decide +kernel, ⟨_, _, ba_mro⟩, madeBy_type ba_mro ba_lookup_new (by decide +kernel), by decide +kernel, by rw [isSubtype_type]; kernel_rfl, slot_ba_init⟩
theorem ba_typeCall (a : Value) : checkTypeCall "bytearray" ⟨[a], []⟩ = pure () := by kernel_rfl
theorem ba_newCall (a : Value) : checkBuiltinCall "bytearray.__new__" ⟨[.type "bytearray", a], []⟩ = pure () := by kernel_rfl
theorem ba_entry_new : entryFor table "bytearray.__new__" = some Builtin.«list.__new__» :=
  entryFor_alias (id' := "list.__new__") (by kernel_rfl) (by first | rfl | decide +kernel) (by decide +kernel) (by kernel_rfl)
theorem ba_plain_new : plainId "bytearray.__new__" = true := by decide +kernel
theorem ba_owner_new : ("bytearray.__new__".splitOn ".__new__").headD "" = "bytearray" := by first | decide +kernel | simp +decide [String.splitOn, String.splitOnAux]
theorem sub_ba_self : isSubtype (.type "bytearray") (.type "bytearray") = pure true := by rw [isSubtype_type]; kernel_rfl
theorem ba_entry_init : entryFor table "bytearray.__init__" = some Builtin.«bytearray.__init__» := entryFor_of_tree (by kernel_rfl)
theorem ba_plain_init : plainId "bytearray.__init__" = true := by decide +kernel
theorem ba_args_init (a b : Value) : argsOk "bytearray.__init__" ⟨[a, b], []⟩ := by
  unfold argsOk; rw [signature?_of (id := "bytearray.__init__") (n := ['_', '_', 't', 'i', 'n', 'i', '_', '_']) (o := ['y', 'a', 'r', 'r', 'a', 'e', 't', 'y', 'b']) (by kernel_rfl) owner_ba]; kernel_rfl
section
variable {prog : Program} {w : World} {A : Around} {E : Value → Shared → Prop} {s : Shared}
theorem code_ba_new (a : Value) {Q₁ : Value → Shared → Prop} (h : Q₁ (.ref s.heap.objs.size) { s with heap := s.heap.push (baObj #[]) }) :
    codeAny (model prog w) A (.call (.builtin "bytearray.__new__") ⟨[.type "bytearray", a], []⟩) (wants Q₁ E) s := by
  refine codeAny_of_tree ?_
  show wpAny _ A.in1 (do checkBuiltinCall "bytearray.__new__" ⟨[.type "bytearray", a], []⟩; again (.builtin "bytearray.__new__" ⟨[.type "bytearray", a], []⟩)) _ _ s
  refine wpAny_bind (wpAny_of_eq (ba_newCall a) (wpAny_pure ⟨plainId_quiet ba_plain_new _, codeAny_builtin_stack ba_entry_new rfl fun p st => ?_⟩))
  rw [Around.under_plainId ba_plain_new _]
  have hsub := sub_ba_self
  have hown := ba_owner_new
  obtain ⟨hp, g, d, tk, os⟩ := s
  simp only [hown]
  wp_walk
  exact h
end
end Mine

namespace Mine
open Sem (wp)
theorem off_C4 : True := by
  w_top off
  trivial
section
variable {α : Type} {prog : Program} {w : World} {M : Model} {A : Around} {E : Value → Shared → Prop} {s : Shared}
theorem wpC_if_false {c : Bool} {a b : Sem α} {Q : α → Shared → Prop} (hc : c = false) (h : wpC M A b Q E s) : wpC M A (if c = true then a else b) Q E s := by
  subst hc
  exact h
theorem wpC_if_true {c : Bool} {a b : Sem α} {Q : α → Shared → Prop} (hc : c = true) (h : wpC M A a Q E s) : wpC M A (if c = true then a else b) Q E s := by
  subst hc
  exact h
theorem codeC_builtin {R : Result → Shared → Prop} {id : String} {args : Args} {b : Builtin} (hd : isDec (.builtin id args) = false) (hb : entryFor table id = some b)
    (h : wpC (model prog w) (A.under (.builtin id args)) (b args)
      (fun fin s' => match fin with | .done f => R (.ok f) s' | .again c' => c'.quiet = true ∧ codeC (model prog w) A c' R s') (fun e s' => R (.error e) s') s) :
    codeC (model prog w) A (.builtin id args) R s := by
  refine codeC_of_tree hd ?_
  show wpC _ _ (match entryFor table id with | some b => b args | none => unsupported ((withoutEnding? id "#data").getD id)) _ _ s
  rw [hb]; exact h

theorem guards_none : ∀ {l : List (Code × Pos)}, guardsOf l = [] → ∀ x ∈ l, x.1.isGuard = false
  | [], _, _, h => nomatch h
  | (c, p) :: l, e, x, h => by
    rw [guardsOf_cons] at e
    obtain ⟨e1, e2⟩ := List.append_eq_nil_iff.mp e
    rcases List.mem_cons.mp h with rfl | h
    · unfold Code.guards at e1
      cases hg : c.isGuard with
      | false => rfl
      | true => rw [hg] at e1; cases e1
    · exact guards_none e2 x h

theorem wpC_exported {a : Addr} {Q : Bool → Shared → Prop} (hg : A.guards = some []) (h : Q false s) : wpC M A (Builtin.Bytes.exported (.ref a)) Q E s := fun Γ p hΓ hd hl => by
  have hgu : guardsOf ((Γ.code, p) :: Γ.below) = [] := by rw [guardsOf_cons]; exact hΓ.2.2.2.1 [] hg
  have hcl : CleanB ((Γ.code, p) :: Γ.below) := CleanB.cons hd hl
  unfold Builtin.Bytes.exported
  refine (show Q (((Γ.code, p) :: Γ.below).any _) s from ?_)
  rw [List.any_eq_false.mpr]
  · exact h
  · intro x hx
    have h1 := guards_none hgu x hx
    have h2 := hcl x hx
    obtain ⟨c, q⟩ := x
    dsimp only at h1 h2
    split
    · rename_i e
      obtain ⟨rfl, rfl⟩ := Prod.mk.inj e
      exact absurd h1 (by show ¬ (guardIds.contains "bytearray.__contains__") = false; decide +kernel)
    · rename_i e
      obtain ⟨rfl, rfl⟩ := Prod.mk.inj e
      exact absurd h1 (by show ¬ (guardIds.contains "bytearray.__mod__") = false; decide +kernel)
    · rename_i e
      obtain ⟨rfl, rfl⟩ := Prod.mk.inj e
      exact absurd h1 (by show ¬ (guardIds.contains "bytearray.__rmod__") = false; decide +kernel)
    · rename_i e
      obtain ⟨rfl, rfl⟩ := Prod.mk.inj e
      exact absurd h1 (by show ¬ (guardIds.contains "_struct.pack_into.held") = false; decide +kernel)
    · rename_i e
      obtain ⟨rfl, rfl⟩ := Prod.mk.inj e
      exact absurd h1 (by show ¬ (guardIds.contains "bytearray.find.held") = false; decide +kernel)
    · rename_i e
      obtain ⟨rfl, rfl⟩ := Prod.mk.inj e
      have h3 : Builtin.Bytes.decodersThatHold.contains _ = false := h2
      rw [h3, Bool.and_false]
      exact Bool.false_ne_true
    · exact Bool.false_ne_true
end
end Mine

namespace Mine
open Sem (wp)
theorem off_C5 : True := by
  w_top off
  trivial
theorem ba_release : typeLookup (.type "bytearray") "__release_buffer__" = pure (some (.builtin "bytearray.__release_buffer__")) := by rw [typeLookup_type, builtinLookup_eq_fast]; kernel_rfl
theorem ba_bindOpt (v : Value) : Builtin.Bytes.bindOptional "bytearray.__init__" "bytearray" ["source", "encoding", "errors"] [v] [] = pure [some v, none, none] := by kernel_rfl
theorem ends_release : ("bytearray.__release_buffer__".endsWith ("." ++ "__release_buffer__")) = true := by decide +kernel
theorem drop_release : ("bytearray.__release_buffer__".dropRight ("__release_buffer__".length + 1)) = "bytearray" := by decide +kernel
section
variable {prog : Program} {w : World} {M : Model} {A : Around} {E : Value → Shared → Prop} {s : Shared}
theorem own_release_ba {a : Addr} {b : Array UInt8} {Q : Bool → Shared → Prop} (ho : s.heap.get? a = some (baObj b)) (h : Q false s) : wpAny M A (Builtin.Bytes.ownRelease (.ref a)) Q E s := by
  have hT : s.TypeIs (.ref a) "bytearray" := typeIs_ba ho
  unfold Builtin.Bytes.ownRelease Builtin.Bytes.slotIsOwn
  refine wpAny_bind (wpAny_bind (wpAny_specialOf hT ba_release ?_))
  dsimp only
  rw [ends_release, drop_release]
  show wpAny _ _ (isInstance (.ref a) (.type "bytearray")) _ _ s
  exact wpAny_isInstance hT sub_ba_self (wpAny_pure h)
theorem write_ba {a : Addr} {b : Array UInt8} {f : Array UInt8 → Array UInt8} {Q : Unit → Shared → Prop} (ho : s.heap.get? a = some (baObj b)) (hz : (f b).size ≤ sizeLine)
    (h : ∀ h', h'.get? a = some (baObj (f b)) → (∀ x o, x ≠ a → s.heap.get? x = some o → h'.get? x = some o) → Q () { s with heap := h' }) : wpAny M A (Builtin.Bytes.write (.ref a) f) Q E s := by
  show wpAny _ _ (updateBytearray a f) _ _ _
  unfold updateBytearray
  refine wpAny_bind (wpAny_load ho ?_)
  show wpAny _ _ (update a (Obj.mapBytearray f) >>= fun _ => lookBehind a) _ _ _
  refine wpAny_bind (wpAny_update ho ?_)
  have hS : (s.heap.update a (Obj.mapBytearray f)).get? a = some (baObj (f b)) := Heap.get?_update_self (Obj.mapBytearray f) ho rfl
  refine wpAny_lookBehind hS ?_ (h _ hS fun x o hx e => (Heap.get?_update_other _ _ (Ne.symm hx)).trans e)
  show (if (f b).size > sizeLine then some "bytearray:memory" else none) = none
  rw [if_neg (Nat.not_lt.mpr hz)]
theorem take_ints (f : Value → Bool) (hf : ∀ i t, f (.int i t) = (decide (0 ≤ i) && decide (i < 256))) {vs : List Value} {ns : List Int} (h : IntsAre vs ns) (hr : ∀ n ∈ ns, 0 ≤ n ∧ n < 256) : vs.takeWhile f = vs := by
  induction h with
  | nil => rfl
  | cons n t _ ih =>
    obtain ⟨h0, h1⟩ := hr n (.head _)
    rw [List.takeWhile_cons, hf, decide_eq_true h0, decide_eq_true h1]
    simp only [Bool.and_self, if_true]
    rw [ih fun x hx => hr x (.tail _ hx)]
theorem map_ints (g : Value → Option UInt8) (hg : ∀ i t, g (.int i t) = some i.toNat.toUInt8) {vs : List Value} {ns : List Int} (h : IntsAre vs ns) : vs.filterMap g = ns.map fun n => n.toNat.toUInt8 := by
  induction h with
  | nil => rfl
  | cons n t _ ih => rw [List.filterMap_cons, hg, List.map_cons, ih]

theorem ba_init {a l : Addr} {vs : List Value} {ns : List Int} {Q : PySem.Fin → Shared → Prop} (hg : A.guards = some []) (ho : s.heap.get? a = some (baObj #[])) (hl : s.heap.IsList l vs.toArray) (hla : l ≠ a) (hi : IntsAre vs ns) (hr : ∀ n ∈ ns, 0 ≤ n ∧ n < 256) (hz : ns.length ≤ 1000)
    (h : ∀ h', h'.get? a = some (baObj (byteArr ns)) → (∀ x o, x ≠ a → s.heap.get? x = some o → h'.get? x = some o) → Q (.done (.ret .none)) { s with heap := h' }) :
    wpC M A (Builtin.«bytearray.__init__» ⟨[.ref a, .ref l], []⟩) Q E s := by
  unfold Builtin.«bytearray.__init__»
  dsimp only
  refine wpC_bind (wpC_any (own_release_ba ho ?_))
  refine wpC_if_false rfl ?_
  refine wpC_bind (wpC_any (wpAny_of_eq (ba_bindOpt _) ?_))
  dsimp only
  refine wpC_bind (wpC_any (wpAny_of_eq (a := ()) rfl ?_))
  refine wpC_bind (wpC_any (wpAny_of_eq (a := ()) rfl ?_))
  refine wpC_bind ?_
  unfold orM
  refine wpC_bind (wpC_exported hg ?_)
  refine wpC_any ?_
  show wpAny _ _ (do let n ← Builtin.Bytes.exportsOf (Value.ref a); pure (decide (n > 0))) _ _ s
  unfold Builtin.Bytes.exportsOf
  refine wpAny_bind (wpAny_bind (wpAny_load ho (wpAny_pure (wpAny_pure ?_))))
  refine wpC_if_false rfl ?_
  refine wpC_any ?_
  refine wpAny_bind (write_ba (f := fun _ => #[]) ho (Nat.zero_le _) fun h1 ho1 hk1 => ?_)
  have hl1 : h1.IsList l vs.toArray := hl.at fun o e => hk1 l o hla e
  have hT1 : ({ s with heap := h1 } : Shared).TypeIs (.ref l) "list" := Heap.IsList.typeIs (s := { s with heap := h1 }) hl1
  obtain ⟨ol, hol, hoc, nl, hod⟩ := id hl1
  refine wpAny_bind ?_
  show wpAny _ _ (load l >>= _) _ _ _
  refine wpAny_bind (wpAny_load hol ?_)
  rw [hod]
  refine wpAny_pure ?_
  refine wpAny_ite_false rfl ?_
  refine wpAny_bind (bm_if_false rfl (bm_if_false rfl (wpAny_pure ?_)))
  refine wpAny_bind (wpAny_specialOf hT1 F.bm_no_index ?_)
  refine wpAny_ite_false rfl ?_
  refine wpAny_bind ?_
  unfold Builtin.Bytes.buffer?
  refine wpAny_bind (wpAny_specialOf hT1 F.bm_no_buffer ?_)
  refine wpAny_bind (wpAny_specialOf hT1 F.bm_no_buffer ?_)
  refine wpAny_pure ?_
  dsimp only
  refine wpAny_bind (wpAny_typeOf hT1 ?_)
  refine wpAny_ite_true (by decide) ?_
  refine wpAny_bind ?_
  show wpAny _ _ (load l >>= _) _ _ _
  refine wpAny_bind (wpAny_load hol ?_)
  rw [hod]
  refine wpAny_pure ?_
  dsimp only
  rw [take_ints _ (fun _ _ => rfl) hi hr, map_ints _ (fun _ _ => rfl) hi]
  rw [show vs.toArray[vs.length]? = none by simp]
  dsimp only
  refine wpAny_bind (wpAny_rule ?_)
  refine wpAny_bind (write_ba (s := { s with heap := h1 }) ho1 ?_ fun h2 ho2 hk2 => ?_)
  · show (byteArr ns).size ≤ sizeLine
    rw [byteArr_size, sizeLine_eq]
    omega
  · exact wpAny_pure (h h2 ho2 fun x o hx e => hk2 x o hx (hk1 x o hx e))
end
end Mine

namespace Mine
open Sem (wp)
theorem off_C6 : True := by
  w_top off
  trivial
section
variable {prog : Program} {w : World} {A : Around} {E : Value → Shared → Prop} {s : Shared}
theorem codeC_call_builtin {R : Result → Shared → Prop} {id : String} {args : Args} {b : Builtin} (hd : isDec (.builtin id args) = false) (hq : plainId id = true) (hb : entryFor table id = some b)
    (h : wpAny (model prog w) A.in1 (checkBuiltinCall id args) (fun _ s₁ => wpC (model prog w) A.in1 (b args)
      (fun fin s' => match fin with | .done f => R (.ok f) s' | .again c' => c'.quiet = true ∧ codeC (model prog w) A c' R s') (fun e s' => R (.error e) s') s₁)
      (fun e s' => R (.error e) s') s) : codeC (model prog w) A (.call (.builtin id) args) R s := by
  refine codeC_of_tree rfl ?_
  show wpC _ A.in1 (do checkBuiltinCall id args; again (.builtin id args)) _ _ s
  refine wpC_bind (wpC_any (wpAny_mono h (fun _ s₁ h₁ => wpC_pure ⟨plainId_quiet hq _, codeC_builtin hd hb ?_⟩) fun _ _ x => x))
  rw [Around.under_plainId hq _]
  exact h₁

theorem wpC_callSpecial {self : Value} {T : String} {name : PySem.Str} {id : String} {args : List Value} {kw : List (PySem.Str × Value)} {M : Model}
    {Q : Option Value → Shared → Prop} (hT : s.TypeIs self T) (h : Slot T name id)
    (hc : wpC M A (call (.builtin id) (self :: args) kw) (fun v => Q (some v)) E s) : wpC M A (callSpecial? self name args kw) Q E s := by
  simp only [callSpecial?]
  refine wpC_bind (wpC_any (wpAny_specialOf hT h.lookup ?_))
  simp only [h.bind]
  exact wpC_holding (wpC_bind (wpC_pure (wpC_bind (wpC_mono hc (fun v s' h' => wpC_pure h') fun _ _ h' => h'))))

theorem call_ba {l : Addr} {vs : List Value} {ns : List Int} {Q : Value → Shared → Prop} (hg : A.guards = some []) (hl : s.heap.IsList l vs.toArray) (hi : IntsAre vs ns) (hr : ∀ n ∈ ns, 0 ≤ n ∧ n < 256) (hz : ns.length ≤ 1000)
    (h : ∀ h', h'.get? s.heap.objs.size = some (baObj (byteArr ns)) → (∀ x o, s.heap.get? x = some o → h'.get? x = some o) → Q (.ref s.heap.objs.size) { s with heap := h' }) :
    wpC (model prog w) A (call (.type "bytearray") [.ref l] []) Q E s := by
  refine wpC_call (codeC_of_tree rfl ?_)
  show wpC _ _ (callAny (.type "bytearray") _) _ _ _
  refine wpC_pure ⟨Code.quiet_builtin _ (by decide +kernel), codeC_builtin (by show Builtin.Bytes.decodersThatHold.contains "type.__call__" = false; decide +kernel) F.entry_type_call ?_⟩
  rw [Around.under_plain (weight_type_call_type "bytearray" [.ref l] []) rfl]
  unfold Builtin.«type.__call__»
  dsimp only
  refine wpC_if_false rfl ?_
  refine wpC_if_false ba_called.canCreate ?_
  refine wpC_bind (wpC_any (wpAny_of_eq (ba_typeCall _) ?_))
  refine wpC_bind (wpC_any (wpAny_of_eq ba_mro ?_))
  refine wpC_if_false rfl ?_
  refine wpC_bind (wpC_any (wpAny_of_eq ba_called.made ?_))
  dsimp only
  refine wpC_bind (wpC_pure ?_)
  refine wpC_bind (wpC_any (wpAny_holding (wpAny_call (code_ba_new (.ref l) ?_))))
  have ho : (s.heap.push (baObj #[])).get? s.heap.objs.size = some (baObj #[]) := Heap.get?_push_size _ rfl
  have hT : ({ s with heap := s.heap.push (baObj #[]) } : Shared).TypeIs (.ref s.heap.objs.size) "bytearray" := typeIs_ba (s := { s with heap := s.heap.push (baObj #[]) }) ho
  obtain ⟨ol, hol, _⟩ := id hl
  have hla : l ≠ s.heap.objs.size := Nat.ne_of_lt (Heap.lt_size hol)
  refine wpC_bind (wpC_any (wpAny_isInstance hT sub_ba_self ?_))
  refine wpC_if_false rfl ?_
  refine wpC_bind (wpC_holding (wpC_callSpecial hT slot_ba_init (wpC_call (codeC_call_builtin (by show Builtin.Bytes.decodersThatHold.contains "bytearray.__init__" = false; decide +kernel) ba_plain_init ba_entry_init
    (slot_ba_init.check _ _ _ _ _ _ _ _ hT (ba_args_init _ _) (ba_init (s := { s with heap := s.heap.push (baObj #[]) }) hg ho (hl.push _) hla hi hr hz fun h' ho' hk => ?_))))))
  show wpC _ _ (if (Value.none != Value.none) = true then _ else _) _ _ _
  refine wpC_if_false rfl ?_
  refine wpC_pure (h h' ho' fun x o e => hk x o (Nat.ne_of_lt (Heap.lt_size e)) (Heap.get?_push_of_some _ e))
end
end Mine

namespace Mine
open Sem (wp)
theorem off_C7 : True := by
  w_top off
  trivial
section
variable {prog : Program} {w : World} {A : Around} {s : Shared} {env : Env} {h₀ : Heap} {body : List Stmt} {Q : Flow → Shared → Prop}
/-- a loop at clean contexts: the walk's core -/
theorem forC_core {target : PySem.Expr} {I : Addr} {fp : List Addr} {n : Nat} {P : Nat → Value → Prop} {St : Nat → Heap → Prop} {m₀ : Map} {news : Led} (W : Walks prog w A I fp [I] n P St) (J : Nat → Map → Led → Prop)
    (hgo : ∀ i v (s : Shared) (Q : Unit → Shared → Prop) (E : Value → Shared → Prop), St i s.heap → Q () s → wpAny (model prog w) A (letOwnedTupleGo target (.ref I) v) Q E s)
    (hI0 : h₀.get? I = none) (hIL : I ≠ env.locals) (hst : St 0 s.heap) (F : Fr h₀ env.locals s.heap m₀) (N : News h₀ env.locals s.heap news) (hoff : ∀ p ∈ news, p.1 ≠ I) (h0 : J 0 m₀ news)
    (hasI : ∀ i h, St i h → ∃ oI, h.get? I = some oI ∧ ∃ fs, oI.data = .fields fs)
    (hfr : ∀ i m₁ nx m₂ nx₂ h₁ h₂ oI, St (i + 1) h₁ → J i m₁ nx → J (i + 1) m₂ nx₂ → Fr h₀ env.locals h₁ m₁ → News h₀ env.locals h₁ nx → Fr h₀ env.locals h₂ m₂ → News h₀ env.locals h₂ nx₂ → h₁.get? I = some oI → h₂.get? I = some oI → St (i + 1) h₂)
    (turn : ∀ i v m₁ nx oI h tk, P i v → J i m₁ nx → (∃ fs, oI.data = .fields fs) → Fr h₀ env.locals h m₁ → News h₀ env.locals h ((I, oI) :: nx) →
      wpAny (model prog w) A (assign target env v) (fun _ s₂ => wpC (model prog w) A (execs body env) (MyPost h₀ env.locals (I, oI) (J (i + 1)) { s with heap := h, toks := tk } Q) noE s₂) noE { s with heap := h, toks := tk })
    (done : ∀ m' nx h tk, J n m' nx → Fr h₀ env.locals h m' → News h₀ env.locals h nx → Q .next { s with heap := h, toks := tk }) :
    codeC (model prog w) A (.forLoop target (.ref I) body [] env) (okR Q) s := by
  refine codeC_forLoop (fun k s' => ∃ h' tk m' nx i, s' = { s with heap := h', toks := tk } ∧ St i h' ∧ Fr h₀ env.locals h' m' ∧ News h₀ env.locals h' nx ∧ (∀ p ∈ nx, p.1 ≠ I) ∧ J i m' nx ∧ i ≤ n ∧ k = n + 1 - i) ?_ (n + 1)
    ⟨s.heap, s.toks, m₀, news, 0, rfl, hst, F, N, hoff, h0, Nat.zero_le _, rfl⟩
  rintro k s' ⟨h', tk, m', nx, i, rfl, hst', F', N', hoff', hJ, hi, rfl⟩
  have next : ∀ h₁ : Heap, (∀ b o, b ∉ [I] → h'.get? b = some o → h₁.get? b = some o) → Fr h₀ env.locals h₁ m' ∧ News h₀ env.locals h₁ nx := fun h₁ hk₁ =>
    ⟨⟨F'.ns.at' fun o e => hk₁ _ o (by simpa using Ne.symm hIL) e, fun b o e => hk₁ b o (by rw [List.mem_singleton]; rintro rfl; rw [hI0] at e; cases e) (F'.keep b o e), F'.above⟩,
      fun p hp => ⟨hk₁ _ _ (by rw [List.mem_singleton]; exact hoff' p hp) (N' p hp).1, (N' p hp).2⟩⟩
  by_cases hlt : i < n
  · refine W.item i _ _ _ hlt hst' fun v h₁ tk₁ hP hst₁ hk₁ => ?_
    obtain ⟨F₁, N₁⟩ := next h₁ hk₁
    refine hgo (i + 1) v _ _ _ hst₁ ?_
    obtain ⟨oI, hI, hId⟩ := hasI _ _ hst₁
    have N₂ : News h₀ env.locals h₁ ((I, oI) :: nx) := by
      intro p hp
      rcases List.mem_cons.mp hp with rfl | hp
      · exact ⟨hI, hIL, hI0⟩
      · exact N₁ p hp
    refine wpAny_mono (turn i v m' nx oI h₁ tk₁ hP hJ hId F₁ N₂) (fun _ s₂ h₂ => wpC_mono h₂ (fun f s₃ h₃ => ?_) fun _ _ x => x) fun _ _ x => x
    have fin : MyEnd h₀ env.locals (I, oI) (J (i + 1)) { s with heap := h₁, toks := tk₁ } s₃ → ∃ m, m < n + 1 - i ∧ ∃ h' tk m' nx i, s₃ = { s with heap := h', toks := tk } ∧ St i h' ∧ Fr h₀ env.locals h' m' ∧ News h₀ env.locals h' nx ∧ (∀ p ∈ nx, p.1 ≠ I) ∧ J i m' nx ∧ i ≤ n ∧ m = n + 1 - i := by
      rintro ⟨h₂, tk₂, m₂, news₂, nx₂, rfl, F₂, N₂, hit, hsub, hcls, hj⟩
      have hoff₂ := off_wr N₂ hit hsub hcls
      refine ⟨n + 1 - (i + 1), by omega, h₂, tk₂, m₂, nx₂, i + 1, rfl, hfr i m' nx m₂ nx₂ h₁ h₂ oI hst₁ hJ hj F₁ N₁ F₂ (fun p hp => N₂ p (hsub p hp)) hI (N₂ _ hit).1, F₂, fun p hp => N₂ p (hsub p hp), fun p hp e => hoff₂ p hp (by rw [e]; simp), hj, hlt, rfl⟩
    cases f with
    | ret v => exact h₃
    | brk => exact h₃
    | next => exact fin h₃
    | cont => exact fin h₃
  · have hin : i = n := by omega
    subst hin
    refine W.done _ _ _ hst' fun h₁ tk₁ hk₁ => ?_
    obtain ⟨F₁, N₁⟩ := next h₁ hk₁
    exact done m' nx h₁ tk₁ hJ F₁ N₁

theorem forC_list {target : PySem.Expr} {l : Addr} {lo : Obj} {vs : List Value} {n : Nat} {m₀ : Map} {news : Led} (J : Nat → Map → Led → Prop)
    (hh : A.handled = none) (F : Fr h₀ env.locals s.heap m₀) (N : News h₀ env.locals s.heap news) (H : ListAt h₀ news J l lo) (hc : lo.cls = .type "list") (hd : lo.data = .seq vs.toArray n) (h0 : J 0 m₀ news)
    (turn : ∀ i v m₁ nx I oI h tk, vs[i]? = some v → J i m₁ nx → (∃ fs, oI.data = .fields fs) → Fr h₀ env.locals h m₁ → News h₀ env.locals h ((I, oI) :: nx) →
      wpAny (model prog w) A (assign target env v) (fun _ s₂ => wpC (model prog w) A (execs body env) (MyPost h₀ env.locals (I, oI) (J (i + 1)) { s with heap := h, toks := tk } Q) noE s₂) noE { s with heap := h, toks := tk })
    (done : ∀ m' nx h tk, J vs.length m' nx → Fr h₀ env.locals h m' → News h₀ env.locals h nx → Q .next { s with heap := h, toks := tk }) :
    wpAny (model prog w) A (pyIter (.ref l)) (fun it s₂ => codeC (model prog w) A (.forLoop target it body [] env) (okR Q) s₂) noE s := by
  obtain ⟨hget0, hneL⟩ := list_lt H F N
  have hl : s.heap.IsList l vs.toArray := ⟨lo, hget0, hc, n, hd⟩
  have hlt : l < s.heap.objs.size := Heap.lt_size hget0
  have hne : l ≠ s.heap.objs.size := Nat.ne_of_lt hlt
  refine wpAny_pyIter_list hl ?_
  have W := Walks.list (prog := prog) (w := w) hh s.heap.objs.size l hne vs.toArray
  rw [List.size_toArray] at W
  refine forC_core W J (fun i v s Q E st q => letGo_listiter st.1 q) (next_is_new F) (Ne.symm (Nat.ne_of_lt F.ns.lt)) ⟨⟨_, Heap.get?_push_size _ rfl, rfl, rfl⟩, hl.at fun o e => Heap.get?_push_of_some _ e⟩ (F.push _) (fun p hp => ⟨Heap.get?_push_of_some _ (N p hp).1, (N p hp).2⟩)
    (fun p hp => Nat.ne_of_lt (Heap.lt_size (N p hp).1)) h0 (fun i h st => ?_) ?_ (fun i v m₁ nx oI h tk hP hJ hId F₁ N₁ => turn i v m₁ nx _ oI h tk (by simpa using hP) hJ hId F₁ N₁) done
  · obtain ⟨⟨oI, hI, _, hId⟩, _⟩ := st
    exact ⟨oI, hI, _, hId⟩
  · rintro i m₁ nx m₂ nx₂ h₁ h₂ oI ⟨⟨o1, g1, g2, g3⟩, x⟩ hJ hJ₂ F₁ N₁ F₂ N₂ hI hI₂
    have eo : o1 = oI := Option.some.inj (g1.symm.trans hI)
    subst eo
    refine ⟨⟨o1, hI₂, g2, g3⟩, ?_⟩
    have hg1 : h₁.get? l = some lo ∧ h₂.get? l = some lo := by
      rcases H with e | ⟨_, e⟩
      · exact ⟨F₁.keep _ _ e, F₂.keep _ _ e⟩
      · exact ⟨(N₁ _ (e _ _ _ hJ)).1, (N₂ _ (e _ _ _ hJ₂)).1⟩
    exact ⟨lo, hg1.2, hc, n, hd⟩

theorem forC_range {x : PySem.Str} {px : Pos} {r : Addr} {a₀ b₀ : Int} {t₀ u₀ v₀ : Tok} {n : Nat} {m₀ : Map} {news : Led} (J : Nat → Map → Led → Prop)
    (hh : A.handled = none) (hr : IsRange s.heap r a₀ b₀ 1 t₀ u₀ v₀) (hsmall : Builtin.Range.small a₀ b₀ 1 = true) (hn : Builtin.Range.rangeSize a₀ b₀ 1 = (n : Int))
    (F : Fr h₀ env.locals s.heap m₀) (N : News h₀ env.locals s.heap news) (h0 : J 0 m₀ news) (hx : env.kindOf x = some .local) (hp : (env.scope.kind == .class || (env.scope.kind == .module && env.locals != env.globals)) = false)
    (turn : ∀ i t m₁ nx I oI h tk, J i m₁ nx → (∃ fs, oI.data = .fields fs) → Fr h₀ env.locals h (fun y => if y = x then some (.int (a₀ + i) t) else m₁ y) → News h₀ env.locals h ((I, oI) :: nx) →
      wpC (model prog w) A (execs body env) (MyPost h₀ env.locals (I, oI) (J (i + 1)) { s with heap := h, toks := tk } Q) noE { s with heap := h, toks := tk })
    (done : ∀ m' nx h tk, J n m' nx → Fr h₀ env.locals h m' → News h₀ env.locals h nx → Q .next { s with heap := h, toks := tk }) :
    wpAny (model prog w) A (pyIter (.ref r)) (fun it s₂ => codeC (model prog w) A (.forLoop (.Name x px) it body [] env) (okR Q) s₂) noE s := by
  refine wpAny_pyIter_range hr hsmall ?_
  refine forC_core (Walks.range hh s.heap.objs.size a₀ 1 n) J (fun i v s Q E st q => wpAny_of_eq (rfl : letOwnedTupleGo (.Name x px) _ v = pure ()) q) (next_is_new F) (Ne.symm (Nat.ne_of_lt F.ns.lt)) (by show IsRangeIter _ _ _ _ _; rw [hn]; simpa using Heap.get?_push_size _ rfl) (F.push _)
    (fun p hp => ⟨Heap.get?_push_of_some _ (N p hp).1, (N p hp).2⟩) (fun p hp => Nat.ne_of_lt (Heap.lt_size (N p hp).1)) h0 (fun i h st => ⟨_, st, _, rfl⟩) (fun i m₁ nx m₂ nx₂ h₁ h₂ oI st _ _ _ _ _ _ hI hI₂ => ?_) ?_ done
  · have st' : h₁.get? s.heap.objs.size = some _ := st
    rw [hI] at st'
    cases st'
    exact hI₂
  · rintro i v m₁ nx oI h tk ⟨t, rfl⟩ hJ hId F₁ N₁
    refine wpAny_assign_Name (wpAny_storeName_local hx F₁.ns (fun h' hn' hs' => ?_) hp)
    have F₂ := F₁.set hn' hs'
    have N₂ := N₁.set hs'
    rw [Int.mul_one] at F₂
    exact turn i t m₁ nx _ oI h' _ hJ hId F₂ N₂
end
end Mine

namespace Mine
theorem off_L0 : True := by
  w_top off
  trivial
theorem cut_fn {K : Frag} {f : Addr} {a : Obj} {P : Prop} {oc doc pm cdv ct dV kV : Value} {od an : Option Addr} {osl : Array (Option Value)} {name qual : PySem.Str} {params : Arguments} {body : List Stmt} {scope : Scope} (h1 : K.lookup f = some a)
    (h2 : K.lookup f = some ⟨oc, od, .func (fnOf name qual params body scope dV kV doc pm an cdv ct), osl⟩) (h : Obj.mk oc od (.func (fnOf name qual params body scope dV kV doc pm an cdv ct)) osl = a → P) : P := h (Option.some.inj (h2.symm.trans h1))
def nth (b : List Stmt) (i : Nat) : Stmt := b.getD i (.Pass default)
theorem rangeSize_up (a b : Int) : Builtin.Range.rangeSize a b 1 = ((b - a).toNat : Int) := by
  unfold Builtin.Range.rangeSize
  rw [if_pos (by decide)]
  split
  · rw [Int.ediv_one]; omega
  · omega
section
variable {prog : Program} {w : World} {env : Env} {s : Shared} {p : Program} {loose : List PySem.Str} {mean : ExcName → Option Value} {mg mb : Map} {h₀ : Heap} {L : Addr} {m : Map} {news : Led} {Q E : Value → Shared → Prop}
theorem detect_step {v : Value} {ns : List Int}
    (F : Fr h₀ L s.heap m) (N : News h₀ L s.heap news) (X : (hd.heap_39 w.params).In h₀) (T : Top p loose mean mg mb h₀) (H : BV s.heap v ns) (hb : Byt ns) (hlen : ns.length ≤ 1000)
    (h : ∀ t h' tk', Fr h₀ L h' m → News h₀ L h' news → Q (.str (detS ns) t) { s with heap := h', toks := tk' }) :
    wpAny (model prog w) (callerA.deeper env) (call (.ref 21) [v] []) Q E s := by
  refine wpAny_call (detect_call (X.keeps F.keep) (T.keeps F.keep) H hb hlen fun t h' tk' k => ?_)
  obtain ⟨F', N'⟩ := after_call F N k
  exact h t h' tk' F' N'
theorem named_step {l : Addr} {vs : List Value} {ns : List Int}
    (F : Fr h₀ L s.heap m) (N : News h₀ L s.heap news) (X : (hd.heap_39 w.params).In h₀) (T : Top p loose mean mg mb h₀) (hl : s.heap.IsList l vs.toArray) (hi : IntsAre vs ns) (hlen : ns.length ≤ 1000)
    (h : ∀ t h' tk', Fr h₀ L h' m → News h₀ L h' news → Q (.str (namedS ns) t) { s with heap := h', toks := tk' }) :
    wpAny (model prog w) (callerA.deeper env) (call (.ref 35) [.ref l] []) Q E s := by
  refine wpAny_call (named_call (X.keeps F.keep) (T.keeps F.keep) hl hi hlen fun t h' tk' k => ?_)
  obtain ⟨F', N'⟩ := after_call F N k
  exact h t h' tk' F' N'
theorem ns_in {h : Heap} {a : Addr} {m : Map} (hn : h.Ns a m) (e : h.get? a = none) : False := by
  obtain ⟨_, _, _, ho, _⟩ := hn
  rw [e] at ho
  cases ho
theorem news_call {h h' : Heap} {l' : Addr} {o : Obj} (F : Fr h₀ L h m) (N : News h₀ L h news) (k : h.StaysIn h') (hn : h.get? l' = none) (ho : h'.get? l' = some o) : Fr h₀ L h' m ∧ News h₀ L h' ((l', o) :: news) := by
  obtain ⟨F', N'⟩ := after_call F N k
  refine ⟨F', fun q hq => ?_⟩
  rcases List.mem_cons.mp hq with rfl | hq
  · refine ⟨ho, ?_, ?_⟩
    · rintro rfl
      exact ns_in F.ns hn
    · cases e : h₀.get? l' with
      | none => rfl
      | some x => rw [F.keep _ _ e] at hn; cases hn
  · exact N' q hq
theorem eights_step {l : Addr} {vs : List Value} {ns : List Int}
    (F : Fr h₀ L s.heap m) (N : News h₀ L s.heap news) (X : (hd.heap_39 w.params).In h₀) (T : Top p loose mean mg mb h₀) (hl : s.heap.IsList l vs.toArray) (hi : IntsAre vs ns) (hlen : ns.length ≤ 10) (hb : ∀ n ∈ ns, 0 ≤ n ∧ n < 1114112)
    (h : ∀ l' vs' h' tk', Fr h₀ L h' m → News h₀ L h' ((l', W.listOf vs'.toArray 0) :: news) → IntsAre vs' (eightsL ns) → Q (.ref l') { s with heap := h', toks := tk' }) :
    wpAny (model prog w) (callerA.deeper env) (call (.ref 42) [.ref l] []) Q E s := by
  refine wpAny_call (eights_call (X.keeps F.keep) (T.keeps F.keep) hl hi hlen hb fun l' vs' h' tk' k hn ho hi' => ?_)
  obtain ⟨F', N'⟩ := news_call F N k hn ho
  exact h l' vs' h' tk' F' N' hi'
theorem wide_step {wd : Int} {little : Bool} {tw : Tok} {l : Addr} {vs : List Value} {ns : List Int}
    (hc : ∀ {s : Shared} {R : Result → Shared → Prop}, (hd.heap_39 w.params).In s.heap → Top p loose mean mg mb s.heap → s.heap.IsList l vs.toArray →
      (∀ l' vs' h' tk', s.heap.StaysIn h' → s.heap.get? l' = none → h'.get? l' = some (W.listOf vs'.toArray 0) → IntsAre vs' (wideL wd little ns) → R (.ok (.ret (.ref l'))) { s with heap := h', toks := tk' }) →
      codeAny (model prog w) (callerA.deeper env) (.call (.ref 47) ⟨[.ref l, .int wd tw, .bool little], []⟩) R s)
    (F : Fr h₀ L s.heap m) (N : News h₀ L s.heap news) (X : (hd.heap_39 w.params).In h₀) (T : Top p loose mean mg mb h₀) (hl : s.heap.IsList l vs.toArray)
    (h : ∀ l' vs' h' tk', Fr h₀ L h' m → News h₀ L h' ((l', W.listOf vs'.toArray 0) :: news) → IntsAre vs' (wideL wd little ns) → Q (.ref l') { s with heap := h', toks := tk' }) :
    wpAny (model prog w) (callerA.deeper env) (call (.ref 47) [.ref l, .int wd tw, .bool little] []) Q E s := by
  refine wpAny_call (hc (X.keeps F.keep) (T.keeps F.keep) hl fun l' vs' h' tk' k hn ho hi' => ?_)
  obtain ⟨F', N'⟩ := news_call F N k hn ho
  exact h l' vs' h' tk' F' N' hi'
theorem wide_step_2f {tw : Tok} {l : Addr} {vs : List Value} {ns : List Int}
    (F : Fr h₀ L s.heap m) (N : News h₀ L s.heap news) (X : (hd.heap_39 w.params).In h₀) (T : Top p loose mean mg mb h₀) (hl : s.heap.IsList l vs.toArray) (hi : IntsAre vs ns) (hlen : ns.length ≤ 10) (hb : ∀ n ∈ ns, 0 ≤ n ∧ n < 1114112)
    (h : ∀ l' vs' h' tk', Fr h₀ L h' m → News h₀ L h' ((l', W.listOf vs'.toArray 0) :: news) → IntsAre vs' (wideL 2 false ns) → Q (.ref l') { s with heap := h', toks := tk' }) :
    wpAny (model prog w) (callerA.deeper env) (call (.ref 47) [.ref l, .int 2 tw, .bool false] []) Q E s :=
  wide_step (fun X T hl h => wide_call_2f X T hl hi hlen hb h) F N X T hl h
theorem wide_step_2t {tw : Tok} {l : Addr} {vs : List Value} {ns : List Int}
    (F : Fr h₀ L s.heap m) (N : News h₀ L s.heap news) (X : (hd.heap_39 w.params).In h₀) (T : Top p loose mean mg mb h₀) (hl : s.heap.IsList l vs.toArray) (hi : IntsAre vs ns) (hlen : ns.length ≤ 10) (hb : ∀ n ∈ ns, 0 ≤ n ∧ n < 1114112)
    (h : ∀ l' vs' h' tk', Fr h₀ L h' m → News h₀ L h' ((l', W.listOf vs'.toArray 0) :: news) → IntsAre vs' (wideL 2 true ns) → Q (.ref l') { s with heap := h', toks := tk' }) :
    wpAny (model prog w) (callerA.deeper env) (call (.ref 47) [.ref l, .int 2 tw, .bool true] []) Q E s :=
  wide_step (fun X T hl h => wide_call_2t X T hl hi hlen hb h) F N X T hl h
theorem wide_step_4f {tw : Tok} {l : Addr} {vs : List Value} {ns : List Int}
    (F : Fr h₀ L s.heap m) (N : News h₀ L s.heap news) (X : (hd.heap_39 w.params).In h₀) (T : Top p loose mean mg mb h₀) (hl : s.heap.IsList l vs.toArray) (hi : IntsAre vs ns) (hlen : ns.length ≤ 10) (hb : ∀ n ∈ ns, 0 ≤ n ∧ n < 1114112)
    (h : ∀ l' vs' h' tk', Fr h₀ L h' m → News h₀ L h' ((l', W.listOf vs'.toArray 0) :: news) → IntsAre vs' (wideL 4 false ns) → Q (.ref l') { s with heap := h', toks := tk' }) :
    wpAny (model prog w) (callerA.deeper env) (call (.ref 47) [.ref l, .int 4 tw, .bool false] []) Q E s :=
  wide_step (fun X T hl h => wide_call_4f X T hl hi hlen hb h) F N X T hl h
theorem wide_step_4t {tw : Tok} {l : Addr} {vs : List Value} {ns : List Int}
    (F : Fr h₀ L s.heap m) (N : News h₀ L s.heap news) (X : (hd.heap_39 w.params).In h₀) (T : Top p loose mean mg mb h₀) (hl : s.heap.IsList l vs.toArray) (hi : IntsAre vs ns) (hlen : ns.length ≤ 10) (hb : ∀ n ∈ ns, 0 ≤ n ∧ n < 1114112)
    (h : ∀ l' vs' h' tk', Fr h₀ L h' m → News h₀ L h' ((l', W.listOf vs'.toArray 0) :: news) → IntsAre vs' (wideL 4 true ns) → Q (.ref l') { s with heap := h', toks := tk' }) :
    wpAny (model prog w) (callerA.deeper env) (call (.ref 47) [.ref l, .int 4 tw, .bool true] []) Q E s :=
  wide_step (fun X T hl h => wide_call_4t X T hl hi hlen hb h) F N X T hl h
end
def MyEnd2 (h₀ : Heap) (L : Addr) (it : Addr × Obj) (J' : Map → Led → Prop) (s s₂ : Shared) : Prop :=
  ∃ h' tk m' news' nx, s₂ = { s with heap := h', toks := tk } ∧ Fr h₀ L h' m' ∧ News h₀ L h' news' ∧ it ∈ news' ∧ (∀ p ∈ nx, p ∈ news') ∧ (∀ p ∈ nx, p.1 ≠ it.1) ∧ J' m' nx
def MyPost2 (h₀ : Heap) (L : Addr) (it : Addr × Obj) (J' : Map → Led → Prop) (s : Shared) (Q : Flow → Shared → Prop) (f : Flow) (s₂ : Shared) : Prop :=
  match f with
  | .ret v => Q (.ret v) s₂
  | .brk => Q .next s₂
  | _ => MyEnd2 h₀ L it J' s s₂
section
variable {prog : Program} {w : World} {A : Around} {E : Value → Shared → Prop} {s : Shared} {env : Env} {h₀ : Heap} {body : List Stmt} {Q : Flow → Shared → Prop}
theorem for_list2 {x : PySem.Str} {l : Addr} {lo : Obj} {vs : List Value} {n : Nat} {m₀ : Map} {news : Led} (J : Nat → Map → Led → Prop)
    (hh : A.handled = none) (F : Fr h₀ env.locals s.heap m₀) (N : News h₀ env.locals s.heap news) (H : ListAt h₀ news J l lo) (hc : lo.cls = .type "list") (hd : lo.data = .seq vs.toArray n) (h0 : J 0 m₀ news)
    (turn : ∀ i v m₁ nx I oI h tk, vs[i]? = some v → J i m₁ nx → (∀ p ∈ nx, p.1 ≠ I) → oI.cls = .type "list_iterator" → (∃ fs, oI.data = .fields fs) → Fr h₀ env.locals h (fun y => if y = x then some v else m₁ y) → News h₀ env.locals h ((I, oI) :: nx) →
      wpAny (model prog w) A (execs body env) (MyPost2 h₀ env.locals (I, oI) (J (i + 1)) { s with heap := h, toks := tk } Q) E { s with heap := h, toks := tk })
    (done : ∀ m' nx h tk, J vs.length m' nx → Fr h₀ env.locals h m' → News h₀ env.locals h nx → Q .next { s with heap := h, toks := tk }) :
    wpAny (model prog w) A (pyIter (.ref l)) (fun it s₂ => LoopAtV prog w A h₀ env x body Q E it s₂) E s := by
  obtain ⟨hget0, hneL⟩ := list_lt H F N
  have hl : s.heap.IsList l vs.toArray := ⟨lo, hget0, hc, n, hd⟩
  have hlt : l < s.heap.objs.size := Heap.lt_size hget0
  have hne : l ≠ s.heap.objs.size := Nat.ne_of_lt hlt
  refine wpAny_pyIter_list hl ?_
  have W := Walks.list (prog := prog) (w := w) hh s.heap.objs.size l hne vs.toArray
  rw [List.size_toArray] at W
  refine ⟨_, _, _, vs.length, _, _, m₀, news, J, rfl, W, ?_, ?_, ?_, ⟨⟨_, Heap.get?_push_size _ rfl, rfl, rfl⟩, hl.at fun o e => Heap.get?_push_of_some _ e⟩, F.push _, (fun p hp => ⟨Heap.get?_push_of_some _ (N p hp).1, (N p hp).2⟩), h0, ?_, ?_⟩
  · intro hm
    rcases List.mem_cons.mp hm with e | hm
    · exact absurd F.ns.lt (e ▸ Nat.lt_irrefl _)
    · exact hneL (List.mem_singleton.mp hm).symm
  · intro b hb
    rw [List.mem_singleton.mp hb]
    exact next_is_new F
  · intro p hp hI
    exact absurd (Heap.lt_size (N p hp).1) ((List.mem_singleton.mp hI) ▸ Nat.lt_irrefl _)
  · rintro i v m₁ news₁ s₁ own ⟨hh', tk', rfl⟩ hin hP hJ hoff hown hget hall hst F₁ N₁
    obtain ⟨⟨oI, hI, hIc, hId⟩, _⟩ := hst
    have hmI : (s.heap.objs.size, oI) ∈ own := hall _ (by simp) (next_is_new F) _ hI
    have N₂ : News h₀ env.locals hh' ((s.heap.objs.size, oI) :: news₁) := by
      intro p hp
      rcases List.mem_cons.mp hp with rfl | hp
      · exact N₁ _ (List.mem_append_left _ hmI)
      · exact N₁ _ (List.mem_append_right _ hp)
    have hv : vs[i]? = some v := by simpa using hP
    refine wpAny_mono (turn i v m₁ news₁ s.heap.objs.size oI hh' tk' hv hJ (fun p hp e => hoff p hp (by rw [e]; exact List.mem_singleton.mpr rfl)) hIc ⟨_, hId⟩ F₁ N₂) (fun f s₂ p => ?_) fun _ _ e => e
    have fin : MyEnd2 h₀ env.locals (s.heap.objs.size, oI) (J (i + 1)) { s with heap := hh', toks := tk' } s₂ → LoopStepU h₀ env.locals [s.heap.objs.size] own (J (i + 1)) { s with heap := hh', toks := tk' } .next s₂ := by
      rintro ⟨h', tk, m', news', nx, e, F', N', hit, hsub, hcls, hj⟩
      exact ⟨rfl, h', tk, m', nx, e, F', own_step H hJ N₁ hown hget hI hit hsub N' hj, (fun p hp hm => hcls p hp (List.mem_singleton.mp hm)), hj⟩
    cases f with
    | ret v => exact .ret p
    | brk => exact .brk p
    | next => exact .next (fin p)
    | cont => exact .cont (fin p)
  · rintro h' tk m' news' F' N' _ hJ
    exact done m' news' h' tk hJ F' N'

theorem for_range2 {x : PySem.Str} {r : Addr} {a₀ b₀ : Int} {t₀ u₀ v₀ : Tok} {n : Nat} {m₀ : Map} {news : Led} (J : Nat → Map → Led → Prop)
    (hh : A.handled = none) (hr : IsRange s.heap r a₀ b₀ 1 t₀ u₀ v₀) (hsmall : Builtin.Range.small a₀ b₀ 1 = true) (hn : Builtin.Range.rangeSize a₀ b₀ 1 = (n : Int))
    (F : Fr h₀ env.locals s.heap m₀) (N : News h₀ env.locals s.heap news) (h0 : J 0 m₀ news)
    (turn : ∀ i t m₁ nx I oI h tk, i < n → J i m₁ nx → (∀ p ∈ nx, p.1 ≠ I) → oI.cls = .type "range_iterator" → (∃ fs, oI.data = .fields fs) → Fr h₀ env.locals h (fun y => if y = x then some (.int (a₀ + i) t) else m₁ y) → News h₀ env.locals h ((I, oI) :: nx) →
      wpAny (model prog w) A (execs body env) (MyPost2 h₀ env.locals (I, oI) (J (i + 1)) { s with heap := h, toks := tk } Q) E { s with heap := h, toks := tk })
    (done : ∀ m' nx h tk, J n m' nx → Fr h₀ env.locals h m' → News h₀ env.locals h nx → Q .next { s with heap := h, toks := tk }) :
    wpAny (model prog w) A (pyIter (.ref r)) (fun it s₂ => LoopAtV prog w A h₀ env x body Q E it s₂) E s := by
  refine wpAny_pyIter_range hr hsmall ?_
  refine ⟨_, _, _, n, _, _, m₀, news, J, rfl, Walks.range hh s.heap.objs.size a₀ 1 n, ?_, ?_, ?_, (by show IsRangeIter _ _ _ _ _; rw [hn]; simpa using Heap.get?_push_size _ rfl), F.push _, (fun p hp => ⟨Heap.get?_push_of_some _ (N p hp).1, (N p hp).2⟩), h0, ?_, ?_⟩
  · intro hm
    exact absurd F.ns.lt ((List.mem_singleton.mp hm) ▸ Nat.lt_irrefl _)
  · intro b hb
    rw [List.mem_singleton.mp hb]
    exact next_is_new F
  · intro p hp hI
    exact absurd (Heap.lt_size (N p hp).1) ((List.mem_singleton.mp hI) ▸ Nat.lt_irrefl _)
  · rintro i v m₁ news₁ s₁ own ⟨hh', tk', rfl⟩ hin ⟨t, rfl⟩ hJ hoff hown hget hall hst F₁ N₁
    obtain ⟨oI, hI, hIc, hId⟩ : ∃ oI, hh'.get? s.heap.objs.size = some oI ∧ oI.cls = .type "range_iterator" ∧ ∃ fs, oI.data = .fields fs := ⟨_, hst, rfl, _, rfl⟩
    have hmI : (s.heap.objs.size, oI) ∈ own := hall _ (by simp) (next_is_new F) _ hI
    have N₂ : News h₀ env.locals hh' ((s.heap.objs.size, oI) :: news₁) := by
      intro p hp
      rcases List.mem_cons.mp hp with rfl | hp
      · exact N₁ _ (List.mem_append_left _ hmI)
      · exact N₁ _ (List.mem_append_right _ hp)
    rw [Int.mul_one] at F₁
    refine wpAny_mono (turn i t m₁ news₁ s.heap.objs.size oI hh' tk' hin hJ (fun p hp e => hoff p hp (List.mem_singleton.mpr e)) hIc hId F₁ N₂) (fun f s₂ p => ?_) fun _ _ e => e
    have fin : MyEnd2 h₀ env.locals (s.heap.objs.size, oI) (J (i + 1)) { s with heap := hh', toks := tk' } s₂ → LoopStepU h₀ env.locals [s.heap.objs.size] own (J (i + 1)) { s with heap := hh', toks := tk' } .next s₂ := by
      rintro ⟨h', tk, m', news', nx, e, F', N', hit, hsub, hcls, hj⟩
      refine ⟨rfl, h', tk, m', nx, e, F', ?_, fun p hp hm => hcls p hp (List.mem_singleton.mp hm), hj⟩
      rintro ⟨a, o⟩ hp
      rcases List.mem_append.mp hp with hp | hp
      · have h2 : hh'.get? a = some o := hget _ hp
        have h3 := List.mem_singleton.mp (hown _ hp)
        dsimp only at h3
        subst h3
        rw [hI] at h2
        cases h2
        exact N' _ hit
      · exact N' _ (hsub _ hp)
    cases f with
    | ret v => exact .ret p
    | brk => exact .brk p
    | next => exact .next (fin p)
    | cont => exact .cont (fin p)
  · rintro h' tk m' news' F' N' _ hJ
    exact done m' news' h' tk hJ F' N'
end
theorem end2 {h₀ h' : Heap} {L : Addr} {it : Addr × Obj} {J' : Map → Led → Prop} {s : Shared} {tk : Nat} {Q : Flow → Shared → Prop} {m' : Map} {news' nx : Led} (F' : Fr h₀ L h' m') (N' : News h₀ L h' news') (hit : it ∈ news') (hsub : ∀ p ∈ nx, p ∈ news') (hne : ∀ p ∈ nx, p.1 ≠ it.1)
    (hj : J' m' nx) : MyPost2 h₀ L it J' s Q .next { s with heap := h', toks := tk } := ⟨h', tk, m', news', nx, rfl, F', N', hit, hsub, hne, hj⟩
end Mine

namespace Mine
open Sem (wp)
theorem off_C8 : True := by
  w_top off
  trivial
section
variable {prog : Program} {w : World} {A : Around} {s : Shared} {env : Env} {h₀ : Heap} {body : List Stmt} {Q : Flow → Shared → Prop}
/-- a loop at clean contexts: the walk's core -/
theorem forC_core2 {target : PySem.Expr} {I : Addr} {fp : List Addr} {n : Nat} {P : Nat → Value → Prop} {St : Nat → Heap → Prop} {m₀ : Map} {news : Led} (W : Walks prog w A I fp [I] n P St) (J : Nat → Map → Led → Prop)
    (hgo : ∀ i v (s : Shared) (Q : Unit → Shared → Prop) (E : Value → Shared → Prop), St i s.heap → Q () s → wpAny (model prog w) A (letOwnedTupleGo target (.ref I) v) Q E s)
    (hI0 : h₀.get? I = none) (hIL : I ≠ env.locals) (hst : St 0 s.heap) (F : Fr h₀ env.locals s.heap m₀) (N : News h₀ env.locals s.heap news) (hoff : ∀ p ∈ news, p.1 ≠ I) (h0 : J 0 m₀ news)
    (hasI : ∀ i h, St i h → ∃ oI, h.get? I = some oI ∧ ∃ fs, oI.data = .fields fs)
    (hfr : ∀ i m₁ nx m₂ nx₂ h₁ h₂ oI, St (i + 1) h₁ → J i m₁ nx → J (i + 1) m₂ nx₂ → Fr h₀ env.locals h₁ m₁ → News h₀ env.locals h₁ nx → Fr h₀ env.locals h₂ m₂ → News h₀ env.locals h₂ nx₂ → h₁.get? I = some oI → h₂.get? I = some oI → St (i + 1) h₂)
    (turn : ∀ i v m₁ nx oI h tk, i < n → P i v → J i m₁ nx → (∃ fs, oI.data = .fields fs) → (∀ p ∈ nx, p.1 ≠ I) → Fr h₀ env.locals h m₁ → News h₀ env.locals h ((I, oI) :: nx) →
      wpAny (model prog w) A (assign target env v) (fun _ s₂ => wpC (model prog w) A (execs body env) (MyPost2 h₀ env.locals (I, oI) (J (i + 1)) { s with heap := h, toks := tk } Q) noE s₂) noE { s with heap := h, toks := tk })
    (done : ∀ m' nx h tk, J n m' nx → Fr h₀ env.locals h m' → News h₀ env.locals h nx → Q .next { s with heap := h, toks := tk }) :
    codeC (model prog w) A (.forLoop target (.ref I) body [] env) (okR Q) s := by
  refine codeC_forLoop (fun k s' => ∃ h' tk m' nx i, s' = { s with heap := h', toks := tk } ∧ St i h' ∧ Fr h₀ env.locals h' m' ∧ News h₀ env.locals h' nx ∧ (∀ p ∈ nx, p.1 ≠ I) ∧ J i m' nx ∧ i ≤ n ∧ k = n + 1 - i) ?_ (n + 1)
    ⟨s.heap, s.toks, m₀, news, 0, rfl, hst, F, N, hoff, h0, Nat.zero_le _, rfl⟩
  rintro k s' ⟨h', tk, m', nx, i, rfl, hst', F', N', hoff', hJ, hi, rfl⟩
  have next : ∀ h₁ : Heap, (∀ b o, b ∉ [I] → h'.get? b = some o → h₁.get? b = some o) → Fr h₀ env.locals h₁ m' ∧ News h₀ env.locals h₁ nx := fun h₁ hk₁ =>
    ⟨⟨F'.ns.at' fun o e => hk₁ _ o (by simpa using Ne.symm hIL) e, fun b o e => hk₁ b o (by rw [List.mem_singleton]; rintro rfl; rw [hI0] at e; cases e) (F'.keep b o e), F'.above⟩,
      fun p hp => ⟨hk₁ _ _ (by rw [List.mem_singleton]; exact hoff' p hp) (N' p hp).1, (N' p hp).2⟩⟩
  by_cases hlt : i < n
  · refine W.item i _ _ _ hlt hst' fun v h₁ tk₁ hP hst₁ hk₁ => ?_
    obtain ⟨F₁, N₁⟩ := next h₁ hk₁
    refine hgo (i + 1) v _ _ _ hst₁ ?_
    obtain ⟨oI, hI, hId⟩ := hasI _ _ hst₁
    have N₂ : News h₀ env.locals h₁ ((I, oI) :: nx) := by
      intro p hp
      rcases List.mem_cons.mp hp with rfl | hp
      · exact ⟨hI, hIL, hI0⟩
      · exact N₁ p hp
    refine wpAny_mono (turn i v m' nx oI h₁ tk₁ hlt hP hJ hId hoff' F₁ N₂) (fun _ s₂ h₂ => wpC_mono h₂ (fun f s₃ h₃ => ?_) fun _ _ x => x) fun _ _ x => x
    have fin : MyEnd2 h₀ env.locals (I, oI) (J (i + 1)) { s with heap := h₁, toks := tk₁ } s₃ → ∃ m, m < n + 1 - i ∧ ∃ h' tk m' nx i, s₃ = { s with heap := h', toks := tk } ∧ St i h' ∧ Fr h₀ env.locals h' m' ∧ News h₀ env.locals h' nx ∧ (∀ p ∈ nx, p.1 ≠ I) ∧ J i m' nx ∧ i ≤ n ∧ m = n + 1 - i := by
      rintro ⟨h₂, tk₂, m₂, news₂, nx₂, rfl, F₂, N₂, hit, hsub, hcls, hj⟩
      refine ⟨n + 1 - (i + 1), by omega, h₂, tk₂, m₂, nx₂, i + 1, rfl, hfr i m' nx m₂ nx₂ h₁ h₂ oI hst₁ hJ hj F₁ N₁ F₂ (fun p hp => N₂ p (hsub p hp)) hI (N₂ _ hit).1, F₂, fun p hp => N₂ p (hsub p hp), hcls, hj, hlt, rfl⟩
    cases f with
    | ret v => exact h₃
    | brk => exact h₃
    | next => exact fin h₃
    | cont => exact fin h₃
  · have hin : i = n := by omega
    subst hin
    refine W.done _ _ _ hst' fun h₁ tk₁ hk₁ => ?_
    obtain ⟨F₁, N₁⟩ := next h₁ hk₁
    exact done m' nx h₁ tk₁ hJ F₁ N₁

theorem forC_list2 {target : PySem.Expr} {l : Addr} {lo : Obj} {vs : List Value} {n : Nat} {m₀ : Map} {news : Led} (J : Nat → Map → Led → Prop)
    (hh : A.handled = none) (F : Fr h₀ env.locals s.heap m₀) (N : News h₀ env.locals s.heap news) (H : ListAt h₀ news J l lo) (hc : lo.cls = .type "list") (hd : lo.data = .seq vs.toArray n) (h0 : J 0 m₀ news)
    (turn : ∀ i v m₁ nx I oI h tk, vs[i]? = some v → J i m₁ nx → (∃ fs, oI.data = .fields fs) → (∀ p ∈ nx, p.1 ≠ I) → Fr h₀ env.locals h m₁ → News h₀ env.locals h ((I, oI) :: nx) →
      wpAny (model prog w) A (assign target env v) (fun _ s₂ => wpC (model prog w) A (execs body env) (MyPost2 h₀ env.locals (I, oI) (J (i + 1)) { s with heap := h, toks := tk } Q) noE s₂) noE { s with heap := h, toks := tk })
    (done : ∀ m' nx h tk, J vs.length m' nx → Fr h₀ env.locals h m' → News h₀ env.locals h nx → Q .next { s with heap := h, toks := tk }) :
    wpAny (model prog w) A (pyIter (.ref l)) (fun it s₂ => codeC (model prog w) A (.forLoop target it body [] env) (okR Q) s₂) noE s := by
  obtain ⟨hget0, hneL⟩ := list_lt H F N
  have hl : s.heap.IsList l vs.toArray := ⟨lo, hget0, hc, n, hd⟩
  have hlt : l < s.heap.objs.size := Heap.lt_size hget0
  have hne : l ≠ s.heap.objs.size := Nat.ne_of_lt hlt
  refine wpAny_pyIter_list hl ?_
  have W := Walks.list (prog := prog) (w := w) hh s.heap.objs.size l hne vs.toArray
  rw [List.size_toArray] at W
  refine forC_core2 W J (fun i v s Q E st q => letGo_listiter st.1 q) (next_is_new F) (Ne.symm (Nat.ne_of_lt F.ns.lt)) ⟨⟨_, Heap.get?_push_size _ rfl, rfl, rfl⟩, hl.at fun o e => Heap.get?_push_of_some _ e⟩ (F.push _) (fun p hp => ⟨Heap.get?_push_of_some _ (N p hp).1, (N p hp).2⟩)
    (fun p hp => Nat.ne_of_lt (Heap.lt_size (N p hp).1)) h0 (fun i h st => ?_) ?_ (fun i v m₁ nx oI h tk _ hP hJ hId ho F₁ N₁ => turn i v m₁ nx _ oI h tk (by simpa using hP) hJ hId ho F₁ N₁) done
  · obtain ⟨⟨oI, hI, _, hId⟩, _⟩ := st
    exact ⟨oI, hI, _, hId⟩
  · rintro i m₁ nx m₂ nx₂ h₁ h₂ oI ⟨⟨o1, g1, g2, g3⟩, x⟩ hJ hJ₂ F₁ N₁ F₂ N₂ hI hI₂
    have eo : o1 = oI := Option.some.inj (g1.symm.trans hI)
    subst eo
    refine ⟨⟨o1, hI₂, g2, g3⟩, ?_⟩
    have hg1 : h₁.get? l = some lo ∧ h₂.get? l = some lo := by
      rcases H with e | ⟨_, e⟩
      · exact ⟨F₁.keep _ _ e, F₂.keep _ _ e⟩
      · exact ⟨(N₁ _ (e _ _ _ hJ)).1, (N₂ _ (e _ _ _ hJ₂)).1⟩
    exact ⟨lo, hg1.2, hc, n, hd⟩

theorem forC_range2 {x : PySem.Str} {px : Pos} {r : Addr} {a₀ b₀ : Int} {t₀ u₀ v₀ : Tok} {n : Nat} {m₀ : Map} {news : Led} (J : Nat → Map → Led → Prop)
    (hh : A.handled = none) (hr : IsRange s.heap r a₀ b₀ 1 t₀ u₀ v₀) (hsmall : Builtin.Range.small a₀ b₀ 1 = true) (hn : Builtin.Range.rangeSize a₀ b₀ 1 = (n : Int))
    (F : Fr h₀ env.locals s.heap m₀) (N : News h₀ env.locals s.heap news) (h0 : J 0 m₀ news) (hx : env.kindOf x = some .local) (hp : (env.scope.kind == .class || (env.scope.kind == .module && env.locals != env.globals)) = false)
    (turn : ∀ i t m₁ nx I oI h tk, i < n → J i m₁ nx → (∃ fs, oI.data = .fields fs) → (∀ p ∈ nx, p.1 ≠ I) → Fr h₀ env.locals h (fun y => if y = x then some (.int (a₀ + i) t) else m₁ y) → News h₀ env.locals h ((I, oI) :: nx) →
      wpC (model prog w) A (execs body env) (MyPost2 h₀ env.locals (I, oI) (J (i + 1)) { s with heap := h, toks := tk } Q) noE { s with heap := h, toks := tk })
    (done : ∀ m' nx h tk, J n m' nx → Fr h₀ env.locals h m' → News h₀ env.locals h nx → Q .next { s with heap := h, toks := tk }) :
    wpAny (model prog w) A (pyIter (.ref r)) (fun it s₂ => codeC (model prog w) A (.forLoop (.Name x px) it body [] env) (okR Q) s₂) noE s := by
  refine wpAny_pyIter_range hr hsmall ?_
  refine forC_core2 (Walks.range hh s.heap.objs.size a₀ 1 n) J (fun i v s Q E st q => wpAny_of_eq (rfl : letOwnedTupleGo (.Name x px) _ v = pure ()) q) (next_is_new F) (Ne.symm (Nat.ne_of_lt F.ns.lt)) (by show IsRangeIter _ _ _ _ _; rw [hn]; simpa using Heap.get?_push_size _ rfl) (F.push _)
    (fun p hp => ⟨Heap.get?_push_of_some _ (N p hp).1, (N p hp).2⟩) (fun p hp => Nat.ne_of_lt (Heap.lt_size (N p hp).1)) h0 (fun i h st => ⟨_, st, _, rfl⟩) (fun i m₁ nx m₂ nx₂ h₁ h₂ oI st _ _ _ _ _ _ hI hI₂ => ?_) ?_ done
  · have st' : h₁.get? s.heap.objs.size = some _ := st
    rw [hI] at st'
    cases st'
    exact hI₂
  · rintro i v m₁ nx oI h tk hin ⟨t, rfl⟩ hJ hId hoff F₁ N₁
    refine wpAny_assign_Name (wpAny_storeName_local hx F₁.ns (fun h' hn' hs' => ?_) hp)
    have F₂ := F₁.set hn' hs'
    have N₂ := N₁.set hs'
    rw [Int.mul_one] at F₂
    exact turn i t m₁ nx _ oI h' _ hin hJ hId hoff F₂ N₂
end
section
variable {M : Model} {A : Around} {E : Value → Shared → Prop} {s : Shared}
theorem wpC_Call {func : PySem.Expr} {args : List PySem.Expr} {pos : Pos} {env : Env} {Q : Value → Shared → Prop}
    (h : wpAny M A (eval func env) (fun f s₁ => wpC M A (callWith pos f [] (backTo pos (starEach args env)) []) Q E s₁) E s)
    (he : eval (.Call func args [] pos) env = (do callWith pos (← eval func env) [] (backTo pos (starEach args env)) (backToKw pos (keywordEach [] env))) := by rfl) :
    wpC M A (eval (.Call func args [] pos) env) Q E s := by
  rw [he]; exact wpC_bind (wpC_any h)
theorem wpC_callWith_K1 {K : Frag} {f : Value} {pos : Pos} {t : Sem Value} {Q : Value → Shared → Prop} (hk : keepIn K f = true)
    (h : wpC M A t (fun v s₁ => K.In s₁.heap ∧ wpAny M A (call f [v]) Q E s₁) E s) : wpC M A (callWith pos f [] [(false, t)] []) Q E s := by
  unfold callWith
  refine wpC_bind (wpC_holding (wpC_mono (wpC_evalArgs1 (Q := fun a s' => K.In s'.heap ∧ wpAny M A (call f a.pos a.kw) Q E s') h) (fun a s₁ h₁ => wpC_bind (wpC_any (wpAny_standAt ?_))) fun _ _ x => x))
  obtain ⟨k, hk', L⟩ := keeps_K (M := M) hk _ h₁.1
  simp only [List.any_cons, List.any_nil, Bool.or_false, List.nil_append]
  refine wpC_any ?_
  refine wpAny_bind (L.here ?_)
  have tail : ∀ {t : Sem Value}, wpAny M A t Q E s₁ → wpAny M A (t >>= fun r => holding [r] point >>= fun _ => pure r) Q E s₁ :=
    fun ht => wpAny_bind (wpAny_mono ht (fun r s₂ hr => wpAny_bind (wpAny_holding (wpAny_point (wpAny_pure hr)))) fun _ _ x => x)
  have marked (mk : Value) : wpAny M A (callMarked mk f a.pos a.kw) Q E s₁ := by unfold callMarked; exact Calls.wpAny_keep h₁.2
  rcases hk' with rfl | rfl | rfl <;> dsimp only <;> first | exact tail h₁.2 | (split <;> first | exact tail h₁.2 | exact tail (marked _))
end
end Mine

namespace Mine
theorem off_S2 : True := by
  w_top off
  trivial
local macro_rules | `(tactic| walk_at "exec For Name Call cons nil") => `(tactic| k_dflt (refine' For_invVF ?F ?k1 ?k2 ?_ ?hs ?hE; (case F => k_asm); (case k1 => exact rfl); (case k2 => exact rfl); (case hs => (intro _; rfl)); (case hE => passes_own)))
local macro_rules | `(tactic| walk_at "pyIter ref") => `(tactic| k_dflt (k_extra "my loop"))
local macro_rules | `(tactic| walk_at "call ref cons nil") => `(tactic| k_dflt (k_extra "my call"))
local macro_rules | `(tactic| walk_at "call type:bytes") => `(tactic| k_dflt (k_extra "my bytes"))
theorem byt_part {ns : List Int} {a b : Nat} (hb : Byt ns) : ∀ n ∈ List.take a (List.drop b ns), 0 ≤ n ∧ n < 256 := fun n hn => hb n (List.mem_of_mem_drop (List.mem_of_mem_take hn))
theorem len_part {ns : List Int} {a b k : Nat} (h : ns.length ≤ k) : (List.take a (List.drop b ns)).length ≤ k := by
  rw [List.length_take, List.length_drop]
  omega
def mapS2 (l lr : Addr) (u1 u2 : Option Value) : Map := fun z => if z = Str.ofString "row" then some (.ref lr) else if z = Str.ofString "first" then u1 else if z = Str.ofString "stop" then u2 else if z = Str.ofString "script" then some (.ref l) else none
theorem mapS2_first {l lr : Addr} {v u1 u2 : Option Value} : (fun y => if y = Str.ofString "first" then v else mapS2 l lr u1 u2 y) = mapS2 l lr v u2 := by
  funext z
  unfold mapS2
  by_cases h : z = Str.ofString "first"
  · subst h; rfl
  · simp only [if_neg h]
theorem mapS2_stop {l lr : Addr} {v u1 u2 : Option Value} : (fun y => if y = Str.ofString "stop" then v else mapS2 l lr u1 u2 y) = mapS2 l lr u1 v := by
  funext z
  unfold mapS2
  by_cases h : z = Str.ofString "stop"
  · subst h; rfl
  · simp only [if_neg h]
theorem fr_first {h₀ h : Heap} {L l lr : Addr} {v u1 u2 : Option Value} (F : Fr h₀ L h (fun y => if y = Str.ofString "first" then v else mapS2 l lr u1 u2 y)) : Fr h₀ L h (mapS2 l lr v u2) := mapS2_first ▸ F
theorem fr_stop {h₀ h : Heap} {L l lr : Addr} {v u1 u2 : Option Value} (F : Fr h₀ L h (fun y => if y = Str.ofString "stop" then v else mapS2 l lr u1 u2 y)) : Fr h₀ L h (mapS2 l lr u1 v) := mapS2_stop ▸ F
theorem s2_run {prog : Program} {w : World} {s : Shared} {p : Program} {loose : List PySem.Str} {mean : ExcName → Option Value} {mg mb : Map} {h₀ : Heap} {L : Addr}
    {oc doc pm cdv ct dV kV : Value} {od : Option Addr} {osl : Array (Option Value)} {name qual : PySem.Str} {params : Arguments} {body : List Stmt} {scope : Scope} {an : Option Addr}
    (ho : (hd.heap_39 w.params).lookup 52 = some ⟨oc, od, .func (fnOf name qual params body scope dV kV doc pm an cdv ct), osl⟩)
    {l lr : Addr} {nr : Nat} {vs : List Value} {ns : List Int}
    (X : (hd.heap_39 w.params).In h₀) (T : Top p loose mean mg mb h₀) (F : Fr h₀ L s.heap (mapS2 l lr none none)) (N : News h₀ L s.heap [(lr, W.listOf vs.toArray nr)])
    (hi : IntsAre vs ns) (hb : Byt ns) (hlen : ns.length ≤ 12) :
    wpAny (model prog w) (callerA.deeper (envOf qual scope L 52 cdv)) (exec (nth body 1) (envOf qual scope L 52 cdv))
      (fun f s' => f = .next ∧ ∃ h' tk' u1 u2, s' = { s with heap := h', toks := tk' } ∧ Fr h₀ L h' (mapS2 l lr u1 u2) ∧ News h₀ L h' [(lr, W.listOf vs.toArray nr)]) noE s := by
  refine' cut_fn ho ?k (fun e => ?_)
  case k => k_is
  cases e
  clear ho
  unfold mapS2 at F
  have hlen0 := hi.length
  k_with_none
  k_with "my loop" => (first
    | ((with_reducible show wpAny _ _ _ (fun it s₂ => LoopAtV _ _ _ _ _ (Str.ofString "first") _ _ _ it s₂) _ _)
       (rename IsRange _ _ _ _ _ _ _ _ => rgX)
       refine' for_range2 (fun i m nx => nx = [(lr, W.listOf vs.toArray nr)] ∧ ∃ u1 u2, m = mapS2 l lr u1 u2) ?hh rgX ?hsm ?hn ?F ?N ?h0 ?turn ?done
       case hh => exact rfl
       case hsm => exact small_one (by omega) (by omega) (by omega) (by omega)
       case hn => exact rangeSize_up _ _
       case F => k_asm
       case N => k_asm
       case h0 => exact ⟨rfl, none, none, rfl⟩
       case' turn =>
         rintro i t m₁ nx I oI h₂ tk₂ hfi ⟨rfl, u1, u2, rfl⟩ hoff hIc hId F₁ N₁
         have hfl : (i : Int) ≤ ns.length := by omega
         have F₁ := fr_first F₁
         rw [Int.zero_add] at F₁
         unfold mapS2 at F₁
         try k_fold
       case done =>
         rintro m' nx h₂ tk₂ ⟨rfl, u1, u2, rfl⟩ F₁ N₁
         exact ⟨rfl, h₂, tk₂, u1, u2, rfl, F₁, N₁⟩)
    | ((with_reducible show wpAny _ _ _ (fun it s₂ => LoopAtV _ _ _ _ _ (Str.ofString "stop") _ _ _ it s₂) _ _)
       (rename IsRange _ _ _ _ _ _ _ _ => rgX)
       refine' for_range2 (fun j m nx => nx = [(I, oI), (lr, W.listOf vs.toArray nr)] ∧ ∃ u2, m = mapS2 l lr (some (.int i t)) u2) ?hh2 rgX ?hsm2 ?hn2 ?F2 ?N2 ?h02 ?turn2 ?done2
       case hh2 => exact rfl
       case hsm2 => exact small_one (by first | omega | (split <;> omega)) (by first | omega | (split <;> omega)) (by first | omega | (split <;> omega)) (by first | omega | (split <;> omega))
       case hn2 => exact rangeSize_up _ _
       case F2 => k_asm
       case N2 => k_asm
       case h02 => exact ⟨rfl, _, rfl⟩
       case' turn2 =>
         rintro j t₂ m₂ nx₂ I₂ oI₂ h₃ tk₃ hjs ⟨rfl, u3, rfl⟩ hoff₂ hIc₂ hId₂ F₂ N₂
         have hsl : (i : Int) + (j : Int) ≤ ns.length := by split at hjs <;> omega
         have hs6 : (j : Int) ≤ 6 := by split at hjs <;> omega
         have F₂ := fr_stop F₂
         unfold mapS2 at F₂
         try k_fold
       case' done2 =>
         rintro m₃ nx₃ h₃ tk₃ ⟨rfl, u3, rfl⟩ F₂ N₂))
  k_with "my bytes" => (
    rename IntsAre _ (List.take _ _) => hIb
    refine' bytes_K ?bF ?bN ?bl hIb ?bB ?bz ?bh ?_
    case bF => k_asm
    case bN => k_asm
    case bl => is_list
    case bB => exact byt_part hb
    case bz => (rw [hIb.length, sizeLine_eq]; exact Nat.le_trans (len_part hlen) (by decide))
    case bh => exact rfl
    intro hb' tb' kb' Fb' Nb' _)
  k_with "my call" => (first
    | ((with_reducible show wpAny _ _ (call (.ref 21) _ _) _ _ _)
       refine' detect_step (ns := List.take (min ((i : Int) + (j : Int)).toNat ns.length - (i : Int).toNat) (List.drop (i : Int).toNat ns)) ?dF ?dN ?dX ?dT ?dH ?db ?dz ?_
       case dF => k_asm
       case dN => k_asm
       case dX => k_asm
       case dT => k_asm
       case dH => exact Or.inl ⟨_, rfl⟩
       case db => exact byt_part hb
       case dz => exact Nat.le_trans (len_part hlen) (by decide)
       intro t' h' tk' F' N')
    | ((with_reducible show wpAny _ _ (call (.ref 35) _ _) _ _ _)
       refine' named_step (ns := List.take (min ((i : Int) + (j : Int)).toNat ns.length - (i : Int).toNat) (List.drop (i : Int).toNat ns)) ?nF ?nN ?nX ?nT ?nl ?nii ?nz ?_
       case nF => k_asm
       case nN => k_asm
       case nX => k_asm
       case nT => k_asm
       case nl => is_list
       case nii => l_ints
       case nz => exact Nat.le_trans (len_part hlen) (by decide)
       intro t' h' tk' F' N'
       rw [named_det]))
  change wpAny _ _ (exec (.For _ _ _ _ _) _) _ _ _
  k_fold
  k_steps
  · refine end2 F₂ N₂ (List.Mem.head _) (fun p hp => List.Mem.tail _ hp) hoff ⟨rfl, _, _, rfl⟩
  · rename (detS _ != detS _) = true => hne
    rw [bne_self_eq_false] at hne
    cases hne
  · rename Fr _ _ _ _ => F'
    rename News _ _ _ _ => N'
    refine end2 F' N' (.tail _ (.tail _ (.head _))) (fun p hp => .tail _ (.tail _ (.tail _ hp))) hoff₂ ⟨rfl, _, rfl⟩
end Mine

namespace Mine
theorem off_S4 : True := by
  w_top off
  trivial
local macro_rules | `(tactic| walk_at "exec For Name BinOp cons nil") => `(tactic| k_dflt (refine' For_invVF ?F ?k1 ?k2 ?_ ?hs ?hE; (case F => k_asm); (case k1 => exact rfl); (case k2 => exact rfl); (case hs => (intro _; rfl)); (case hE => passes_own)))
local macro_rules | `(tactic| walk_at "pyIter ref") => `(tactic| k_dflt (k_extra "my loop"))
local macro_rules | `(tactic| walk_at "call builtin:list.append") => `(tactic| k_dflt (k_extra "my append"))
theorem append_L {prog : Program} {w : World} {A : Around} {E : Value → Shared → Prop} {s : Shared} {h₀ : Heap} {L D : Addr} {m : Map} {news news' : Led} {ws : List Value} {n : Nat} {x : Value} {Q : Value → Shared → Prop} (F : Fr h₀ L s.heap m) (N : News h₀ L s.heap news) (U : Upd D (W.listOf ws.toArray n) (W.listOf (ws ++ [x]).toArray (n + 1)) news news')
    (hz : ws.length ≤ 5) (h : ∀ h', Fr h₀ L h' m → News h₀ L h' news' → Q .none { s with heap := h' }) : wpAny (model prog w) A (call (.builtin "list.append") [.ref D, x]) Q E s :=
  append_K F N (by rw [List.push_toArray]; exact U) h (by rw [sizeLine_eq, List.size_toArray]; omega)
/-- the frame from `codes` on: what is known of it -/
def mapS4 (l c : Addr) (rest : Map) : Map := fun z => if z = Str.ofString "codes" then some (.ref c) else if z = Str.ofString "script" then some (.ref l) else rest z
theorem mapS4_set {l c : Addr} {rest : Map} {x : PySem.Str} {v : Option Value} (h1 : x ≠ Str.ofString "codes") (h2 : x ≠ Str.ofString "script") : (fun y => if y = x then v else mapS4 l c rest y) = mapS4 l c (fun y => if y = x then v else rest y) := by
  funext z
  unfold mapS4
  by_cases h : z = x
  · subst h
    simp only [if_pos rfl, if_neg h1, if_neg h2]
  · simp only [if_neg h]
theorem mapS4_new {l c : Addr} {m : Map} (h : m (Str.ofString "script") = some (.ref l)) : (fun y => if y = Str.ofString "codes" then some (.ref c) else m y) = mapS4 l c m := by
  funext z
  unfold mapS4
  by_cases h1 : z = Str.ofString "codes"
  · simp only [if_pos h1]
  · simp only [if_neg h1]
    by_cases h2 : z = Str.ofString "script"
    · subst h2; exact h.trans (if_pos rfl).symm
    · simp only [if_neg h2]
theorem s3_run {prog : Program} {w : World} {s : Shared} {p : Program} {loose : List PySem.Str} {mean : ExcName → Option Value} {mg mb : Map} {h₀ : Heap} {L : Addr}
    {oc doc pm cdv ct dV kV : Value} {od : Option Addr} {osl : Array (Option Value)} {name qual : PySem.Str} {params : Arguments} {body : List Stmt} {scope : Scope} {an : Option Addr}
    (ho : (hd.heap_39 w.params).lookup 52 = some ⟨oc, od, .func (fnOf name qual params body scope dV kV doc pm an cdv ct), osl⟩)
    {m : Map} {news : Led} (X : (hd.heap_39 w.params).In h₀) (T : Top p loose mean mg mb h₀) (F : Fr h₀ L s.heap m) (N : News h₀ L s.heap news) :
    wpAny (model prog w) (callerA.deeper (envOf qual scope L 52 cdv)) (exec (nth body 2) (envOf qual scope L 52 cdv))
      (fun f s' => f = .next ∧ ∃ c h' tk', s' = { s with heap := h', toks := tk' } ∧ Fr h₀ L h' (fun y => if y = Str.ofString "codes" then some (.ref c) else m y) ∧ News h₀ L h' ((c, W.listOf #[] 0) :: news)) noE s := by
  refine' cut_fn ho ?k (fun e => ?_)
  case k => k_is
  cases e
  clear ho
  k_with_none
  change wpAny _ _ (exec (.Assign _ _ _) _) _ _ _
  k_fold
  k_steps
  · rename Fr _ _ _ _ => F'
    exact F'
  · rename News _ _ _ _ => N'
    exact N'
/-- the codes that the law draws -/
def Codes (cs : List Int) : Prop := (∀ c ∈ cs, 1 ≤ c ∧ c < 1114112 ∧ ¬ (55295 < c ∧ c < 57344)) ∧ (∀ c, cs.head? = some c → c ≤ 127)
def S4J (l c : Addr) (i : Nat) (m : Map) (nx : Led) : Prop := ∃ (ws : List Value) (cs : List Int) (rest : Map), nx = [(c, W.listOf ws.toArray i)] ∧ m = mapS4 l c rest ∧ IntsAre ws cs ∧ cs.length = i ∧ Codes cs
theorem mapS4_of {l c : Addr} {m : Map} (h1 : m (Str.ofString "codes") = some (.ref c)) (h2 : m (Str.ofString "script") = some (.ref l)) : m = mapS4 l c m := by
  funext z
  unfold mapS4
  by_cases e1 : z = Str.ofString "codes"
  · subst e1; exact h1.trans (if_pos rfl).symm
  · rw [if_neg e1]
    by_cases e2 : z = Str.ofString "script"
    · subst e2; exact h2.trans (if_pos rfl).symm
    · rw [if_neg e2]
theorem Codes.snoc {cs : List Int} {v : Int} (hC : Codes cs) (hv : 1 ≤ v ∧ v < 1114112 ∧ ¬ (55295 < v ∧ v < 57344)) (h0 : cs.length = 0 → v ≤ 127) : Codes (cs ++ [v]) := by
  refine ⟨fun c hc => ?_, fun c hc => ?_⟩
  · rcases List.mem_append.mp hc with hc | hc
    · exact hC.1 c hc
    · exact List.mem_singleton.mp hc ▸ hv
  · cases cs with
    | nil =>
      simp only [List.nil_append, List.head?_cons, Option.some.injEq] at hc
      exact hc ▸ h0 rfl
    | cons x r =>
      exact hC.2 c hc
theorem s4_end {h₀ h' : Heap} {L I Dq l c : Addr} {oI lo : Obj} {ws : List Value} {cs : List Int} {v : Int} {t : Tok} {i : Nat} {s : Shared} {tk : Nat} {Q : Flow → Shared → Prop} {m' : Map}
    (F' : Fr h₀ L h' m') (N' : News h₀ L h' [(I, oI), (Dq, lo), (c, W.listOf (ws ++ [Value.int v t]).toArray (i + 1))]) (h1 : Dq ≠ I) (h2 : c ≠ I) (hI : IntsAre ws cs) (hcl : cs.length = i) (hC : Codes cs) (hv : 1 ≤ v ∧ v < 1114112 ∧ ¬ (55295 < v ∧ v < 57344)) (h0 : cs.length = 0 → v ≤ 127)
    (hm1 : m' (Str.ofString "codes") = some (.ref c)) (hm2 : m' (Str.ofString "script") = some (.ref l)) :
    MyPost2 h₀ L (I, oI) (fun m nx => ∃ nx', nx = (Dq, lo) :: nx' ∧ S4J l c (i + 1) m nx') s Q .next { s with heap := h', toks := tk } := by
  refine end2 (nx := [(Dq, lo), (c, W.listOf (ws ++ [Value.int v t]).toArray (i + 1))]) F' N' (.head _) (fun p hp => .tail _ hp) (fun p hp => ?_) ⟨_, rfl, ws ++ [Value.int v t], cs ++ [v], m', rfl, mapS4_of hm1 hm2, hI.append (.cons _ _ .nil), by rw [List.length_append, hcl]; rfl, hC.snoc hv h0⟩
  simp only [List.mem_cons, List.not_mem_nil, or_false] at hp
  rcases hp with rfl | rfl
  · exact h1
  · exact h2
theorem s4_run {prog : Program} {w : World} {s : Shared} {p : Program} {loose : List PySem.Str} {mean : ExcName → Option Value} {mg mb : Map} {h₀ : Heap} {L : Addr}
    {oc doc pm cdv ct dV kV : Value} {od : Option Addr} {osl : Array (Option Value)} {name qual : PySem.Str} {params : Arguments} {body : List Stmt} {scope : Scope} {an : Option Addr}
    (ho : (hd.heap_39 w.params).lookup 52 = some ⟨oc, od, .func (fnOf name qual params body scope dV kV doc pm an cdv ct), osl⟩)
    {l c : Addr} {rest : Map} {vs : List Value} {ns : List Int} (X : (hd.heap_39 w.params).In h₀) (T : Top p loose mean mg mb h₀) (F : Fr h₀ L s.heap (mapS4 l c rest)) (N : News h₀ L s.heap [(c, W.listOf #[] 0)])
    (hl : h₀.IsList l vs.toArray) (hi : IntsAre vs ns) (hlen : ns.length ≤ 63) :
    wpAny (model prog w) (callerA.deeper (envOf qual scope L 52 cdv)) (exec (nth body 3) (envOf qual scope L 52 cdv))
      (fun f s' => f = .next ∧ ∃ n h' tk' m' nx, s' = { s with heap := h', toks := tk' } ∧ 1 ≤ n ∧ n ≤ 6 ∧ Fr h₀ L h' m' ∧ News h₀ L h' nx ∧ S4J l c n m' nx) noE s := by
  refine' cut_fn ho ?k (fun e => ?_)
  case k => k_is
  cases e
  clear ho
  have hlen0 := hi.length
  unfold mapS4 at F
  k_with_none
  k_with "my loop" => (
    with_reducible show wpAny _ _ _ (fun it s₂ => LoopAtV _ _ _ _ _ (Str.ofString "number") _ _ _ it s₂) _ _
    rename_i Dq wsq hq Fq Nq hIq lq
    have hwl : wsq.length = (List.take 5 ns ++ [ns.sum]).length := hIq.length
    refine' for_list2 (lo := W.listOf wsq.toArray 0) (vs := wsq) (n := 0) (fun i m nx => ∃ nx', nx = (Dq, W.listOf wsq.toArray 0) :: nx' ∧ S4J l c i m nx') ?hh ?F ?N ?H ?hc ?hd ?h0 ?turn ?done
    case hh => exact rfl
    case F => exact Fq
    case N => exact fun p hp => Nq p (by rcases List.mem_cons.mp hp with e | hp
                                         · exact e ▸ .head _
                                         · exact .tail _ (.tail _ (.tail _ hp)))
    case H => exact Or.inr ⟨.head _, fun i m nx ⟨nx', e, _⟩ => e ▸ .head _⟩
    case hc => exact rfl
    case hd => exact rfl
    case h0 => exact ⟨_, rfl, [], [], rest, rfl, rfl, IntsAre.nil, rfl, ⟨(fun _ h => nomatch h), (fun _ h => nomatch h)⟩⟩
    case' turn =>
      rintro i v m₁ nx I oI h₂ tk₂ hv ⟨nx', rfl, ws, cs, rest', rfl, rfl, hI', hcl, hC⟩ hoff hIc hId F₁ N₁
      have hne1 : c ≠ I := hoff _ (.tail _ (.head _))
      have hne2 : Dq ≠ I := hoff _ (.head _)
      have hne3 : c ≠ Dq := Nat.ne_of_lt lq.2.2
      obtain ⟨n, t, rfl, hn⟩ := ints_at hIq hv
      have hcs : cs.length ≤ 5 := by
        have := (List.getElem?_eq_some_iff.mp hn).1
        rw [List.length_append, List.length_take] at this
        simp only [List.length_cons, List.length_nil] at this
        omega
      have hwsz : ws.length ≤ 5 := by rw [hI'.length]; exact hcs
      unfold mapS4 at F₁
      try k_fold
    case done =>
      rintro m' nx h₂ tk₂ ⟨nx', rfl, hJ⟩ F₁ N₁
      have hwl2 : wsq.length = min 5 ns.length + 1 := by
        rw [hwl, List.length_append, List.length_take]
        rfl
      exact ⟨rfl, wsq.length, h₂, tk₂, m', nx', rfl, by omega, by omega, F₁, (fun p hp => N₁ p (.tail _ hp)), hJ⟩)
  k_with "my append" => (
    refine' append_L (D := c) (ws := ws) (n := i) ?aF ?aN ?aU hwsz ?_
    case aF => k_asm
    case aN => k_asm
    case aU => exact .tail hne1.symm (.tail hne3.symm (.head (fun _ h => nomatch h)))
    intro h' F' N')
  change wpAny _ _ (exec (.For _ _ _ _ _) _) _ _ _
  k_fold
  k_steps
  all_goals (
    rename Fr _ _ _ _ => F'
    rename News _ _ _ _ => N'
    have hq1 := Int.fmod_nonneg_of_pos n (show (0:Int) < 1114111 by decide)
    have hq2 := Int.fmod_lt_of_pos n (show (0:Int) < 1114111 by decide)
    have hq3 := Int.fmod_nonneg_of_pos n (show (0:Int) < 127 by decide)
    have hq4 := Int.fmod_lt_of_pos n (show (0:Int) < 127 by decide)
    generalize hg1 : n.fmod 1114111 = q1 at *
    generalize hg2 : n.fmod 127 = q2 at *
    refine s4_end F' N' hne2 hne1 hI' hcl hC ?_ ?_ rfl rfl
    all_goals (clear hne1 hne2 hne3 lq; omega))
end Mine

namespace Mine
theorem off_T5 : True := by
  w_top off
  trivial
local macro_rules | `(tactic| walk_at "no such key T50") => `(tactic| skip)
local macro_rules | `(tactic| walk_at "pyIter ref") => `(tactic| k_dflt (k_extra "my loop"))
local macro_rules | `(tactic| walk_at "call ref cons nil") => `(tactic| k_dflt (k_extra "my call"))
local macro_rules | `(tactic| walk_at "call builtin:list.append") => `(tactic| k_dflt (k_extra "my append"))
theorem append_G {prog : Program} {w : World} {A : Around} {E : Value → Shared → Prop} {s : Shared} {h₀ : Heap} {L D : Addr} {m : Map} {news news' : Led} {ws : List Value} {n : Nat} {x : Value} {Q : Value → Shared → Prop} (F : Fr h₀ L s.heap m) (N : News h₀ L s.heap news) (U : Upd D (W.listOf ws.toArray n) (W.listOf (ws ++ [x]).toArray (n + 1)) news news')
    (hz : ws.length ≤ 100) (h : ∀ h', Fr h₀ L h' m → News h₀ L h' news' → Q .none { s with heap := h' }) : wpAny (model prog w) A (call (.builtin "list.append") [.ref D, x]) Q E s :=
  append_K F N (by rw [List.push_toArray]; exact U) h (by rw [sizeLine_eq, List.size_toArray]; omega)
def forBody : Stmt → List Stmt
  | .For _ _ b _ _ => b
  | _ => []
def Wr (nx : Led) (v : Value) : Prop := ∃ (T l : Addr) (ws : List Value) (ns : List Int) (t : Tok) (wanted : PySem.Str), v = .ref T ∧ (T, tupObj [.ref l, .str wanted t]) ∈ nx ∧ (l, W.listOf ws.toArray 0) ∈ nx ∧ IntsAre ws ns ∧ Byt ns ∧ ns.length ≤ 40 ∧ detS ns = wanted
theorem Wr.mono {a b : Led} {v : Value} (h : Wr a v) (hs : ∀ p ∈ a, p ∈ b) : Wr b v := by
  obtain ⟨T, l, ws, ns, t, wd, e, h1, h2, r⟩ := h
  exact ⟨T, l, ws, ns, t, wd, e, hs _ h1, hs _ h2, r⟩
section
variable {prog : Program} {w : World} {env : Env} {s : Shared} {p : Program} {loose : List PySem.Str} {mean : ExcName → Option Value} {mg mb : Map} {h₀ : Heap} {L : Addr} {m : Map} {news : Led} {Q E : Value → Shared → Prop}
theorem news_call2 {h h' : Heap} {l' : Addr} {o : Obj} (F : Fr h₀ L h m) (N : News h₀ L h news) (k : h.StaysIn h') (hn : h.get? l' = none) (ho : h'.get? l' = some o) : Fr h₀ L h' m ∧ News h₀ L h' ((l', o) :: news) ∧ (∀ q ∈ news, l' ≠ q.1) := by
  obtain ⟨F', N'⟩ := news_call F N k hn ho
  refine ⟨F', N', fun q hq e => ?_⟩
  rw [e, (N q hq).1] at hn
  cases hn
theorem eights_stepN {l : Addr} {vs : List Value} {ns : List Int}
    (F : Fr h₀ L s.heap m) (N : News h₀ L s.heap news) (X : (hd.heap_39 w.params).In h₀) (T : Top p loose mean mg mb h₀) (hl : s.heap.IsList l vs.toArray) (hi : IntsAre vs ns) (hlen : ns.length ≤ 10) (hb : ∀ n ∈ ns, 0 ≤ n ∧ n < 1114112)
    (h : ∀ l' vs' h' tk', Fr h₀ L h' m → News h₀ L h' ((l', W.listOf vs'.toArray 0) :: news) → IntsAre vs' (eightsL ns) → (∀ q ∈ news, l' ≠ q.1) → Q (.ref l') { s with heap := h', toks := tk' }) :
    wpAny (model prog w) (callerA.deeper env) (call (.ref 42) [.ref l] []) Q E s := by
  refine wpAny_call (eights_call (X.keeps F.keep) (T.keeps F.keep) hl hi hlen hb fun l' vs' h' tk' k hn ho hi' => ?_)
  obtain ⟨F', N', D⟩ := news_call2 F N k hn ho
  exact h l' vs' h' tk' F' N' hi' D
theorem wide_stepN {wd : Int} {little : Bool} {tw : Tok} {l : Addr} {vs : List Value} {ns : List Int} (hw : wd = 2 ∨ wd = 4)
    (F : Fr h₀ L s.heap m) (N : News h₀ L s.heap news) (X : (hd.heap_39 w.params).In h₀) (T : Top p loose mean mg mb h₀) (hl : s.heap.IsList l vs.toArray) (hi : IntsAre vs ns) (hlen : ns.length ≤ 10) (hb : ∀ n ∈ ns, 0 ≤ n ∧ n < 1114112)
    (h : ∀ l' vs' h' tk', Fr h₀ L h' m → News h₀ L h' ((l', W.listOf vs'.toArray 0) :: news) → IntsAre vs' (wideL wd little ns) → (∀ q ∈ news, l' ≠ q.1) → Q (.ref l') { s with heap := h', toks := tk' }) :
    wpAny (model prog w) (callerA.deeper env) (call (.ref 47) [.ref l, .int wd tw, .bool little] []) Q E s := by
  have fin : ∀ l' vs' h' tk', s.heap.StaysIn h' → s.heap.get? l' = none → h'.get? l' = some (W.listOf vs'.toArray 0) → IntsAre vs' (wideL wd little ns) → Q (.ref l') { s with heap := h', toks := tk' } := by
    intro l' vs' h' tk' k hn ho hi'
    obtain ⟨F', N', D⟩ := news_call2 F N k hn ho
    exact h l' vs' h' tk' F' N' hi' D
  rcases hw with rfl | rfl <;> cases little
  · exact wpAny_call (wide_call_2f (X.keeps F.keep) (T.keeps F.keep) hl hi hlen hb fin)
  · exact wpAny_call (wide_call_2t (X.keeps F.keep) (T.keeps F.keep) hl hi hlen hb fin)
  · exact wpAny_call (wide_call_4f (X.keeps F.keep) (T.keeps F.keep) hl hi hlen hb fin)
  · exact wpAny_call (wide_call_4t (X.keeps F.keep) (T.keeps F.keep) hl hi hlen hb fin)
end
def mapT (c H Wa : Addr) (wd : Int) (tw : Tok) (lt : Bool) (rest : Map) : Map := fun z => if z = Str.ofString "little" then some (.bool lt) else if z = Str.ofString "width" then some (.int wd tw) else if z = Str.ofString "writings" then some (.ref Wa) else if z = Str.ofString "head" then some (.ref H) else if z = Str.ofString "codes" then some (.ref c) else rest z

def Plain (o : Obj) : Prop := o.cls = .type "tuple" ∨ o.cls = .type "list"
def TurnPost (h₀ : Heap) (L c H Wa : Addr) (wd : Int) (tw : Tok) (lt : Bool) (ws hs : List Value) (n : Nat) (rest : Led) (s : Shared) (f : Flow) (s' : Shared) : Prop :=
  f = .next ∧ ∃ h' tk' ext rm' v1 v2, s' = { s with heap := h', toks := tk' } ∧ Fr h₀ L h' (mapT c H Wa wd tw lt rm') ∧ News h₀ L h' ((Wa, W.listOf (ws ++ [v1, v2]).toArray (n + 1 + 1)) :: (H, W.listOf hs.toArray 0) :: (ext ++ rest)) ∧
        (∀ q ∈ ext, q.1 ≠ Wa ∧ Plain q.2) ∧ Wr ext v1 ∧ Wr ext v2
theorem mapT_of {c H Wa : Addr} {wd : Int} {tw : Tok} {lt : Bool} {m : Map} (h1 : m (Str.ofString "little") = some (.bool lt)) (h2 : m (Str.ofString "width") = some (.int wd tw)) (h3 : m (Str.ofString "writings") = some (.ref Wa)) (h4 : m (Str.ofString "head") = some (.ref H)) (h5 : m (Str.ofString "codes") = some (.ref c)) : m = mapT c H Wa wd tw lt m := by
  funext z
  unfold mapT
  by_cases e1 : z = Str.ofString "little"
  · subst e1; exact h1.trans (if_pos rfl).symm
  rw [if_neg e1]
  by_cases e2 : z = Str.ofString "width"
  · subst e2; exact h2.trans (if_pos rfl).symm
  rw [if_neg e2]
  by_cases e3 : z = Str.ofString "writings"
  · subst e3; exact h3.trans (if_pos rfl).symm
  rw [if_neg e3]
  by_cases e4 : z = Str.ofString "head"
  · subst e4; exact h4.trans (if_pos rfl).symm
  rw [if_neg e4]
  by_cases e5 : z = Str.ofString "codes"
  · subst e5; exact h5.trans (if_pos rfl).symm
  rw [if_neg e5]
theorem turn_end {h₀ h' : Heap} {L c H Wa D1 l1 D2 l2 : Addr} {wd : Int} {tw t1 t2 : Tok} {lt : Bool} {ws hs ws1 ws2 : List Value} {n : Nat} {rest : Led} {s : Shared} {tk : Nat} {m' : Map} {x3 x4 : Addr × Obj} {a1 a2 : PySem.Str} {ns1 ns2 : List Int}
    (F' : Fr h₀ L h' m') (N' : News h₀ L h' ((D2, tupObj [.ref l2, .str a2 t2]) :: (l2, W.listOf ws2.toArray 0) :: x3 :: x4 :: (D1, tupObj [.ref l1, .str a1 t1]) :: (l1, W.listOf ws1.toArray 0) :: (Wa, W.listOf ((ws ++ [Value.ref D1]) ++ [Value.ref D2]).toArray (n + 1 + 1)) :: (H, W.listOf hs.toArray 0) :: rest))
    (e1 : D2 ≠ Wa) (e2 : l2 ≠ Wa) (e3 : D1 ≠ Wa) (e4 : l1 ≠ Wa) (hI1 : IntsAre ws1 ns1) (hI2 : IntsAre ws2 ns2) (hb1 : Byt ns1) (hb2 : Byt ns2) (hz1 : ns1.length ≤ 40) (hz2 : ns2.length ≤ 40) (hd1 : detS ns1 = a1) (hd2 : detS ns2 = a2)
    (h1 : m' (Str.ofString "little") = some (.bool lt)) (h2 : m' (Str.ofString "width") = some (.int wd tw)) (h3 : m' (Str.ofString "writings") = some (.ref Wa)) (h4 : m' (Str.ofString "head") = some (.ref H)) (h5 : m' (Str.ofString "codes") = some (.ref c)) :
    TurnPost h₀ L c H Wa wd tw lt ws hs n rest s .next { s with heap := h', toks := tk } := by
  refine ⟨rfl, h', tk, [(D2, tupObj [.ref l2, .str a2 t2]), (l2, W.listOf ws2.toArray 0), (D1, tupObj [.ref l1, .str a1 t1]), (l1, W.listOf ws1.toArray 0)], m', .ref D1, .ref D2, rfl, mapT_of h1 h2 h3 h4 h5 ▸ F', ?_, ?_, ?_, ?_⟩
  · intro q hq
    refine N' q ?_
    rw [List.append_assoc]
    simp only [List.mem_cons, List.cons_append, List.nil_append] at hq ⊢
    rcases hq with e | e | e | e | e | e | e
    · exact .inr (.inr (.inr (.inr (.inr (.inr (.inl e))))))
    · exact .inr (.inr (.inr (.inr (.inr (.inr (.inr (.inl e)))))))
    · exact .inl e
    · exact .inr (.inl e)
    · exact .inr (.inr (.inr (.inr (.inl e))))
    · exact .inr (.inr (.inr (.inr (.inr (.inl e)))))
    · exact .inr (.inr (.inr (.inr (.inr (.inr (.inr (.inr e)))))))
  · intro q hq
    simp only [List.mem_cons, List.not_mem_nil, or_false] at hq
    rcases hq with rfl | rfl | rfl | rfl
    · exact ⟨e1, .inl rfl⟩
    · exact ⟨e2, .inr rfl⟩
    · exact ⟨e3, .inl rfl⟩
    · exact ⟨e4, .inr rfl⟩
  · exact ⟨D1, l1, ws1, ns1, t1, a1, rfl, .tail _ (.tail _ (.head _)), .tail _ (.tail _ (.tail _ (.head _))), hI1, hb1, hz1, hd1⟩
  · exact ⟨D2, l2, ws2, ns2, t2, a2, rfl, .head _, .tail _ (.head _), hI2, hb2, hz2, hd2⟩
theorem turn_2f {prog : Program} {w : World} {s : Shared} {p : Program} {loose : List PySem.Str} {mean : ExcName → Option Value} {mg mb : Map} {h₀ : Heap} {L : Addr}
    {oc doc pm cdv ct dV kV : Value} {od : Option Addr} {osl : Array (Option Value)} {name qual : PySem.Str} {params : Arguments} {body : List Stmt} {scope : Scope} {an : Option Addr}
    (ho : (hd.heap_39 w.params).lookup 52 = some ⟨oc, od, .func (fnOf name qual params body scope dV kV doc pm an cdv ct), osl⟩)
    {c H Wa : Addr} {tw : Tok} {rm : Map} {rest : Led} {ws hs : List Value} {n : Nat} {c0 : Int} {cr : List Int} (X : (hd.heap_39 w.params).In h₀) (T : Top p loose mean mg mb h₀) (F : Fr h₀ L s.heap (mapT c H Wa 2 tw false rm))
    (N : News h₀ L s.heap ((Wa, W.listOf ws.toArray n) :: (H, W.listOf hs.toArray 0) :: rest)) (hWH : Wa ≠ H) (hWr : ∀ q ∈ rest, q.1 ≠ Wa)
    (hi : IntsAre hs (c0 :: cr)) (hlen : (c0 :: cr).length ≤ 6) (h0 : 1 ≤ c0) (h1 : c0 ≤ 127) (hcr : ∀ n ∈ cr, Cd n) (hws : ws.length ≤ 20) :
    wpAny (model prog w) (callerA.deeper (envOf qual scope L 52 cdv)) (execs (forBody (nth (forBody (nth (forBody (nth body 4)) 2)) 0)) (envOf qual scope L 52 cdv))
      (TurnPost h₀ L c H Wa 2 tw false ws hs n rest s) noE s := by
  refine' cut_fn ho ?k (fun e => ?_)
  case k => k_is
  cases e
  clear ho
  have hbd : ∀ n ∈ (c0 :: cr), 0 ≤ n ∧ n < 1114112 := fun n hn => by
    rcases List.mem_cons.mp hn with rfl | hn
    · omega
    · have := hcr n hn; unfold Cd at this; omega
  have hbd2 : ∀ n ∈ (65279 :: c0 :: cr), 0 ≤ n ∧ n < 1114112 := fun n hn => by
    rcases List.mem_cons.mp hn with rfl | hn
    · decide
    · exact hbd n hn
  have hWr2 : ∀ q ∈ (H, W.listOf hs.toArray 0) :: rest, q.1 ≠ Wa := fun q hq => by
    rcases List.mem_cons.mp hq with rfl | hq
    · exact hWH.symm
    · exact hWr q hq
  unfold mapT at F
  k_with_none
  k_with "my call" => (first
    | (refine' wide_stepN (ns := c0 :: cr) ?w1h ?w1F ?w1N ?w1X ?w1T ?w1l ?w1i ?w1z ?w1b ?_
       case w1h => decide
       case w1F => k_asm
       case w1N => k_asm
       case w1X => k_asm
       case w1T => k_asm
       case w1l => is_list
       case w1i => exact hi
       case w1z => exact Nat.le_trans hlen (by decide)
       case w1b => exact hbd
       intro l1 ws1 h' tk' F' N' hI1 hD1)
    | (refine' wide_stepN (ns := 65279 :: c0 :: cr) ?w2h ?w2F ?w2N ?w2X ?w2T ?w2l ?w2i ?w2z ?w2b ?_
       case w2h => decide
       case w2F => k_asm
       case w2N => k_asm
       case w2X => k_asm
       case w2T => k_asm
       case w2l => is_list
       case w2i => l_ints
       case w2z => exact Nat.succ_le_succ (Nat.le_trans hlen (by decide))
       case w2b => exact hbd2
       intro l2 ws2 h' tk' F' N' hI2 hD2))
  k_with "my append" => (first
    | (rename _ < _ ∧ _ < _ ∧ _ < _ ∧ _ < _ ∧ _ < _ ∧ _ < _ ∧ _ < _ ∧ AllLt _ _ => lq4
       rename _ < _ ∧ _ < _ ∧ _ < _ ∧ _ < _ ∧ _ < _ ∧ AllLt _ _ => lq3
       rename _ < _ ∧ _ < _ ∧ _ < _ ∧ _ < _ ∧ AllLt _ _ => lq2
       have hn1 := hD1 _ (.head _)
       have hn2 := hD2 _ (.tail _ (.tail _ (.tail _ (.tail _ (.head _)))))
       rename Fr _ _ _ _ => F5
       rename News _ _ _ _ => N5
       refine' append_G (D := Wa) (n := n + 1) F5 N5 (Upd.tail (Nat.ne_of_gt lq4.2.2.2.2.2.1) (Upd.tail hn2 (Upd.tail (Nat.ne_of_gt lq3.2.2.2.1) (Upd.tail (Nat.ne_of_gt lq2.2.2.1) (Upd.tail (Nat.ne_of_gt lq1.2.1) (Upd.tail hn1 (Upd.head hWr2))))))) ?bz ?bh
       case bz => (rw [List.length_append]; exact Nat.le_trans (Nat.succ_le_succ hws) (by decide))
       case' bh => intro h' F' N')
    | (rename _ < _ ∧ _ < _ ∧ _ < _ ∧ AllLt _ _ => lq1
       refine' append_G (D := Wa) (ws := ws) (n := n) ?aF ?aN ?aU ?az ?ah
       case aF => k_asm
       case aN => k_asm
       case aU => exact Upd.tail (Nat.ne_of_gt lq1.2.1) (Upd.tail (hD1 _ (.head _)) (Upd.head hWr2))
       case az => exact Nat.le_trans hws (by decide)
       case' ah => intro h' F' N'))
  change wpAny _ _ (execs (_ :: _ :: _ :: []) _) _ _ _
  k_fold
  k_steps
  rename Fr _ _ _ _ => F'
  rename News _ _ _ _ => N'
  refine turn_end F' N' (Nat.ne_of_gt lq4.2.2.2.2.2.1) hn2 (Nat.ne_of_gt lq1.2.1) hn1 hI1 hI2 (wideL_byt _ _ _) (wideL_byt _ _ _) ?_ ?_ ?_ ?_ rfl rfl rfl rfl rfl
  · exact Nat.le_trans (wideL_len (by decide) _ _) (by omega)
  · exact Nat.le_trans (wideL_len (by decide) _ _) (by rw [List.length_cons]; omega)
  · exact det_2f h0 h1
  · exact det_m2f h0 h1
theorem turn_2t {prog : Program} {w : World} {s : Shared} {p : Program} {loose : List PySem.Str} {mean : ExcName → Option Value} {mg mb : Map} {h₀ : Heap} {L : Addr}
    {oc doc pm cdv ct dV kV : Value} {od : Option Addr} {osl : Array (Option Value)} {name qual : PySem.Str} {params : Arguments} {body : List Stmt} {scope : Scope} {an : Option Addr}
    (ho : (hd.heap_39 w.params).lookup 52 = some ⟨oc, od, .func (fnOf name qual params body scope dV kV doc pm an cdv ct), osl⟩)
    {c H Wa : Addr} {tw : Tok} {rm : Map} {rest : Led} {ws hs : List Value} {n : Nat} {c0 : Int} {cr : List Int} (X : (hd.heap_39 w.params).In h₀) (T : Top p loose mean mg mb h₀) (F : Fr h₀ L s.heap (mapT c H Wa 2 tw true rm))
    (N : News h₀ L s.heap ((Wa, W.listOf ws.toArray n) :: (H, W.listOf hs.toArray 0) :: rest)) (hWH : Wa ≠ H) (hWr : ∀ q ∈ rest, q.1 ≠ Wa)
    (hi : IntsAre hs (c0 :: cr)) (hlen : (c0 :: cr).length ≤ 6) (h0 : 1 ≤ c0) (h1 : c0 ≤ 127) (hcr : ∀ n ∈ cr, Cd n) (hws : ws.length ≤ 20) :
    wpAny (model prog w) (callerA.deeper (envOf qual scope L 52 cdv)) (execs (forBody (nth (forBody (nth (forBody (nth body 4)) 2)) 0)) (envOf qual scope L 52 cdv))
      (TurnPost h₀ L c H Wa 2 tw true ws hs n rest s) noE s := by
  refine' cut_fn ho ?k (fun e => ?_)
  case k => k_is
  cases e
  clear ho
  have hbd : ∀ n ∈ (c0 :: cr), 0 ≤ n ∧ n < 1114112 := fun n hn => by
    rcases List.mem_cons.mp hn with rfl | hn
    · omega
    · have := hcr n hn; unfold Cd at this; omega
  have hbd2 : ∀ n ∈ (65279 :: c0 :: cr), 0 ≤ n ∧ n < 1114112 := fun n hn => by
    rcases List.mem_cons.mp hn with rfl | hn
    · decide
    · exact hbd n hn
  have hWr2 : ∀ q ∈ (H, W.listOf hs.toArray 0) :: rest, q.1 ≠ Wa := fun q hq => by
    rcases List.mem_cons.mp hq with rfl | hq
    · exact hWH.symm
    · exact hWr q hq
  unfold mapT at F
  k_with_none
  k_with "my call" => (first
    | (refine' wide_stepN (ns := c0 :: cr) ?w1h ?w1F ?w1N ?w1X ?w1T ?w1l ?w1i ?w1z ?w1b ?_
       case w1h => decide
       case w1F => k_asm
       case w1N => k_asm
       case w1X => k_asm
       case w1T => k_asm
       case w1l => is_list
       case w1i => exact hi
       case w1z => exact Nat.le_trans hlen (by decide)
       case w1b => exact hbd
       intro l1 ws1 h' tk' F' N' hI1 hD1)
    | (refine' wide_stepN (ns := 65279 :: c0 :: cr) ?w2h ?w2F ?w2N ?w2X ?w2T ?w2l ?w2i ?w2z ?w2b ?_
       case w2h => decide
       case w2F => k_asm
       case w2N => k_asm
       case w2X => k_asm
       case w2T => k_asm
       case w2l => is_list
       case w2i => l_ints
       case w2z => exact Nat.succ_le_succ (Nat.le_trans hlen (by decide))
       case w2b => exact hbd2
       intro l2 ws2 h' tk' F' N' hI2 hD2))
  k_with "my append" => (first
    | (rename _ < _ ∧ _ < _ ∧ _ < _ ∧ _ < _ ∧ _ < _ ∧ _ < _ ∧ _ < _ ∧ AllLt _ _ => lq4
       rename _ < _ ∧ _ < _ ∧ _ < _ ∧ _ < _ ∧ _ < _ ∧ AllLt _ _ => lq3
       rename _ < _ ∧ _ < _ ∧ _ < _ ∧ _ < _ ∧ AllLt _ _ => lq2
       have hn1 := hD1 _ (.head _)
       have hn2 := hD2 _ (.tail _ (.tail _ (.tail _ (.tail _ (.head _)))))
       rename Fr _ _ _ _ => F5
       rename News _ _ _ _ => N5
       refine' append_G (D := Wa) (n := n + 1) F5 N5 (Upd.tail (Nat.ne_of_gt lq4.2.2.2.2.2.1) (Upd.tail hn2 (Upd.tail (Nat.ne_of_gt lq3.2.2.2.1) (Upd.tail (Nat.ne_of_gt lq2.2.2.1) (Upd.tail (Nat.ne_of_gt lq1.2.1) (Upd.tail hn1 (Upd.head hWr2))))))) ?bz ?bh
       case bz => (rw [List.length_append]; exact Nat.le_trans (Nat.succ_le_succ hws) (by decide))
       case' bh => intro h' F' N')
    | (rename _ < _ ∧ _ < _ ∧ _ < _ ∧ AllLt _ _ => lq1
       refine' append_G (D := Wa) (ws := ws) (n := n) ?aF ?aN ?aU ?az ?ah
       case aF => k_asm
       case aN => k_asm
       case aU => exact Upd.tail (Nat.ne_of_gt lq1.2.1) (Upd.tail (hD1 _ (.head _)) (Upd.head hWr2))
       case az => exact Nat.le_trans hws (by decide)
       case' ah => intro h' F' N'))
  change wpAny _ _ (execs (_ :: _ :: _ :: []) _) _ _ _
  k_fold
  k_steps
  rename Fr _ _ _ _ => F'
  rename News _ _ _ _ => N'
  refine turn_end F' N' (Nat.ne_of_gt lq4.2.2.2.2.2.1) hn2 (Nat.ne_of_gt lq1.2.1) hn1 hI1 hI2 (wideL_byt _ _ _) (wideL_byt _ _ _) ?_ ?_ ?_ ?_ rfl rfl rfl rfl rfl
  · exact Nat.le_trans (wideL_len (by decide) _ _) (by omega)
  · exact Nat.le_trans (wideL_len (by decide) _ _) (by rw [List.length_cons]; omega)
  · exact det_2t h0 h1 hcr
  · exact det_m2t h0 h1
theorem turn_4f {prog : Program} {w : World} {s : Shared} {p : Program} {loose : List PySem.Str} {mean : ExcName → Option Value} {mg mb : Map} {h₀ : Heap} {L : Addr}
    {oc doc pm cdv ct dV kV : Value} {od : Option Addr} {osl : Array (Option Value)} {name qual : PySem.Str} {params : Arguments} {body : List Stmt} {scope : Scope} {an : Option Addr}
    (ho : (hd.heap_39 w.params).lookup 52 = some ⟨oc, od, .func (fnOf name qual params body scope dV kV doc pm an cdv ct), osl⟩)
    {c H Wa : Addr} {tw : Tok} {rm : Map} {rest : Led} {ws hs : List Value} {n : Nat} {c0 : Int} {cr : List Int} (X : (hd.heap_39 w.params).In h₀) (T : Top p loose mean mg mb h₀) (F : Fr h₀ L s.heap (mapT c H Wa 4 tw false rm))
    (N : News h₀ L s.heap ((Wa, W.listOf ws.toArray n) :: (H, W.listOf hs.toArray 0) :: rest)) (hWH : Wa ≠ H) (hWr : ∀ q ∈ rest, q.1 ≠ Wa)
    (hi : IntsAre hs (c0 :: cr)) (hlen : (c0 :: cr).length ≤ 6) (h0 : 1 ≤ c0) (h1 : c0 ≤ 127) (hcr : ∀ n ∈ cr, Cd n) (hws : ws.length ≤ 20) :
    wpAny (model prog w) (callerA.deeper (envOf qual scope L 52 cdv)) (execs (forBody (nth (forBody (nth (forBody (nth body 4)) 2)) 0)) (envOf qual scope L 52 cdv))
      (TurnPost h₀ L c H Wa 4 tw false ws hs n rest s) noE s := by
  refine' cut_fn ho ?k (fun e => ?_)
  case k => k_is
  cases e
  clear ho
  have hbd : ∀ n ∈ (c0 :: cr), 0 ≤ n ∧ n < 1114112 := fun n hn => by
    rcases List.mem_cons.mp hn with rfl | hn
    · omega
    · have := hcr n hn; unfold Cd at this; omega
  have hbd2 : ∀ n ∈ (65279 :: c0 :: cr), 0 ≤ n ∧ n < 1114112 := fun n hn => by
    rcases List.mem_cons.mp hn with rfl | hn
    · decide
    · exact hbd n hn
  have hWr2 : ∀ q ∈ (H, W.listOf hs.toArray 0) :: rest, q.1 ≠ Wa := fun q hq => by
    rcases List.mem_cons.mp hq with rfl | hq
    · exact hWH.symm
    · exact hWr q hq
  unfold mapT at F
  k_with_none
  k_with "my call" => (first
    | (refine' wide_stepN (ns := c0 :: cr) ?w1h ?w1F ?w1N ?w1X ?w1T ?w1l ?w1i ?w1z ?w1b ?_
       case w1h => decide
       case w1F => k_asm
       case w1N => k_asm
       case w1X => k_asm
       case w1T => k_asm
       case w1l => is_list
       case w1i => exact hi
       case w1z => exact Nat.le_trans hlen (by decide)
       case w1b => exact hbd
       intro l1 ws1 h' tk' F' N' hI1 hD1)
    | (refine' wide_stepN (ns := 65279 :: c0 :: cr) ?w2h ?w2F ?w2N ?w2X ?w2T ?w2l ?w2i ?w2z ?w2b ?_
       case w2h => decide
       case w2F => k_asm
       case w2N => k_asm
       case w2X => k_asm
       case w2T => k_asm
       case w2l => is_list
       case w2i => l_ints
       case w2z => exact Nat.succ_le_succ (Nat.le_trans hlen (by decide))
       case w2b => exact hbd2
       intro l2 ws2 h' tk' F' N' hI2 hD2))
  k_with "my append" => (first
    | (rename _ < _ ∧ _ < _ ∧ _ < _ ∧ _ < _ ∧ _ < _ ∧ _ < _ ∧ _ < _ ∧ AllLt _ _ => lq4
       rename _ < _ ∧ _ < _ ∧ _ < _ ∧ _ < _ ∧ _ < _ ∧ AllLt _ _ => lq3
       rename _ < _ ∧ _ < _ ∧ _ < _ ∧ _ < _ ∧ AllLt _ _ => lq2
       have hn1 := hD1 _ (.head _)
       have hn2 := hD2 _ (.tail _ (.tail _ (.tail _ (.tail _ (.head _)))))
       rename Fr _ _ _ _ => F5
       rename News _ _ _ _ => N5
       refine' append_G (D := Wa) (n := n + 1) F5 N5 (Upd.tail (Nat.ne_of_gt lq4.2.2.2.2.2.1) (Upd.tail hn2 (Upd.tail (Nat.ne_of_gt lq3.2.2.2.1) (Upd.tail (Nat.ne_of_gt lq2.2.2.1) (Upd.tail (Nat.ne_of_gt lq1.2.1) (Upd.tail hn1 (Upd.head hWr2))))))) ?bz ?bh
       case bz => (rw [List.length_append]; exact Nat.le_trans (Nat.succ_le_succ hws) (by decide))
       case' bh => intro h' F' N')
    | (rename _ < _ ∧ _ < _ ∧ _ < _ ∧ AllLt _ _ => lq1
       refine' append_G (D := Wa) (ws := ws) (n := n) ?aF ?aN ?aU ?az ?ah
       case aF => k_asm
       case aN => k_asm
       case aU => exact Upd.tail (Nat.ne_of_gt lq1.2.1) (Upd.tail (hD1 _ (.head _)) (Upd.head hWr2))
       case az => exact Nat.le_trans hws (by decide)
       case' ah => intro h' F' N'))
  change wpAny _ _ (execs (_ :: _ :: _ :: []) _) _ _ _
  k_fold
  k_steps
  rename Fr _ _ _ _ => F'
  rename News _ _ _ _ => N'
  refine turn_end F' N' (Nat.ne_of_gt lq4.2.2.2.2.2.1) hn2 (Nat.ne_of_gt lq1.2.1) hn1 hI1 hI2 (wideL_byt _ _ _) (wideL_byt _ _ _) ?_ ?_ ?_ ?_ rfl rfl rfl rfl rfl
  · exact Nat.le_trans (wideL_len (by decide) _ _) (by omega)
  · exact Nat.le_trans (wideL_len (by decide) _ _) (by rw [List.length_cons]; omega)
  · exact det_4f h0 h1
  · exact det_m4f _
theorem turn_4t {prog : Program} {w : World} {s : Shared} {p : Program} {loose : List PySem.Str} {mean : ExcName → Option Value} {mg mb : Map} {h₀ : Heap} {L : Addr}
    {oc doc pm cdv ct dV kV : Value} {od : Option Addr} {osl : Array (Option Value)} {name qual : PySem.Str} {params : Arguments} {body : List Stmt} {scope : Scope} {an : Option Addr}
    (ho : (hd.heap_39 w.params).lookup 52 = some ⟨oc, od, .func (fnOf name qual params body scope dV kV doc pm an cdv ct), osl⟩)
    {c H Wa : Addr} {tw : Tok} {rm : Map} {rest : Led} {ws hs : List Value} {n : Nat} {c0 : Int} {cr : List Int} (X : (hd.heap_39 w.params).In h₀) (T : Top p loose mean mg mb h₀) (F : Fr h₀ L s.heap (mapT c H Wa 4 tw true rm))
    (N : News h₀ L s.heap ((Wa, W.listOf ws.toArray n) :: (H, W.listOf hs.toArray 0) :: rest)) (hWH : Wa ≠ H) (hWr : ∀ q ∈ rest, q.1 ≠ Wa)
    (hi : IntsAre hs (c0 :: cr)) (hlen : (c0 :: cr).length ≤ 6) (h0 : 1 ≤ c0) (h1 : c0 ≤ 127) (hcr : ∀ n ∈ cr, Cd n) (hws : ws.length ≤ 20) :
    wpAny (model prog w) (callerA.deeper (envOf qual scope L 52 cdv)) (execs (forBody (nth (forBody (nth (forBody (nth body 4)) 2)) 0)) (envOf qual scope L 52 cdv))
      (TurnPost h₀ L c H Wa 4 tw true ws hs n rest s) noE s := by
  refine' cut_fn ho ?k (fun e => ?_)
  case k => k_is
  cases e
  clear ho
  have hbd : ∀ n ∈ (c0 :: cr), 0 ≤ n ∧ n < 1114112 := fun n hn => by
    rcases List.mem_cons.mp hn with rfl | hn
    · omega
    · have := hcr n hn; unfold Cd at this; omega
  have hbd2 : ∀ n ∈ (65279 :: c0 :: cr), 0 ≤ n ∧ n < 1114112 := fun n hn => by
    rcases List.mem_cons.mp hn with rfl | hn
    · decide
    · exact hbd n hn
  have hWr2 : ∀ q ∈ (H, W.listOf hs.toArray 0) :: rest, q.1 ≠ Wa := fun q hq => by
    rcases List.mem_cons.mp hq with rfl | hq
    · exact hWH.symm
    · exact hWr q hq
  unfold mapT at F
  k_with_none
  k_with "my call" => (first
    | (refine' wide_stepN (ns := c0 :: cr) ?w1h ?w1F ?w1N ?w1X ?w1T ?w1l ?w1i ?w1z ?w1b ?_
       case w1h => decide
       case w1F => k_asm
       case w1N => k_asm
       case w1X => k_asm
       case w1T => k_asm
       case w1l => is_list
       case w1i => exact hi
       case w1z => exact Nat.le_trans hlen (by decide)
       case w1b => exact hbd
       intro l1 ws1 h' tk' F' N' hI1 hD1)
    | (refine' wide_stepN (ns := 65279 :: c0 :: cr) ?w2h ?w2F ?w2N ?w2X ?w2T ?w2l ?w2i ?w2z ?w2b ?_
       case w2h => decide
       case w2F => k_asm
       case w2N => k_asm
       case w2X => k_asm
       case w2T => k_asm
       case w2l => is_list
       case w2i => l_ints
       case w2z => exact Nat.succ_le_succ (Nat.le_trans hlen (by decide))
       case w2b => exact hbd2
       intro l2 ws2 h' tk' F' N' hI2 hD2))
  k_with "my append" => (first
    | (rename _ < _ ∧ _ < _ ∧ _ < _ ∧ _ < _ ∧ _ < _ ∧ _ < _ ∧ _ < _ ∧ AllLt _ _ => lq4
       rename _ < _ ∧ _ < _ ∧ _ < _ ∧ _ < _ ∧ _ < _ ∧ AllLt _ _ => lq3
       rename _ < _ ∧ _ < _ ∧ _ < _ ∧ _ < _ ∧ AllLt _ _ => lq2
       have hn1 := hD1 _ (.head _)
       have hn2 := hD2 _ (.tail _ (.tail _ (.tail _ (.tail _ (.head _)))))
       rename Fr _ _ _ _ => F5
       rename News _ _ _ _ => N5
       refine' append_G (D := Wa) (n := n + 1) F5 N5 (Upd.tail (Nat.ne_of_gt lq4.2.2.2.2.2.1) (Upd.tail hn2 (Upd.tail (Nat.ne_of_gt lq3.2.2.2.1) (Upd.tail (Nat.ne_of_gt lq2.2.2.1) (Upd.tail (Nat.ne_of_gt lq1.2.1) (Upd.tail hn1 (Upd.head hWr2))))))) ?bz ?bh
       case bz => (rw [List.length_append]; exact Nat.le_trans (Nat.succ_le_succ hws) (by decide))
       case' bh => intro h' F' N')
    | (rename _ < _ ∧ _ < _ ∧ _ < _ ∧ AllLt _ _ => lq1
       refine' append_G (D := Wa) (ws := ws) (n := n) ?aF ?aN ?aU ?az ?ah
       case aF => k_asm
       case aN => k_asm
       case aU => exact Upd.tail (Nat.ne_of_gt lq1.2.1) (Upd.tail (hD1 _ (.head _)) (Upd.head hWr2))
       case az => exact Nat.le_trans hws (by decide)
       case' ah => intro h' F' N'))
  change wpAny _ _ (execs (_ :: _ :: _ :: []) _) _ _ _
  k_fold
  k_steps
  rename Fr _ _ _ _ => F'
  rename News _ _ _ _ => N'
  refine turn_end F' N' (Nat.ne_of_gt lq4.2.2.2.2.2.1) hn2 (Nat.ne_of_gt lq1.2.1) hn1 hI1 hI2 (wideL_byt _ _ _) (wideL_byt _ _ _) ?_ ?_ ?_ ?_ rfl rfl rfl rfl rfl
  · exact Nat.le_trans (wideL_len (by decide) _ _) (by omega)
  · exact Nat.le_trans (wideL_len (by decide) _ _) (by rw [List.length_cons]; omega)
  · exact det_4t h0 h1
  · exact det_m4t _
end Mine

namespace Mine
theorem off_T6 : True := by
  w_top off
  trivial
section
variable {prog : Program} {w : World} {A : Around} {E : Value → Shared → Prop} {s : Shared} {env : Env} {h₀ : Heap} {body : List Stmt} {Q : Flow → Shared → Prop}
theorem for_tup2 {x : PySem.Str} {l : Addr} {lo : Obj} {vs : List Value} {n : Nat} {m₀ : Map} {news : Led} (J : Nat → Map → Led → Prop)
    (hh : A.handled = none) (F : Fr h₀ env.locals s.heap m₀) (N : News h₀ env.locals s.heap news) (H : ListAt h₀ news J l lo) (hc : lo.cls = .type "tuple") (hd : lo.data = .seq vs.toArray n) (h0 : J 0 m₀ news)
    (turn : ∀ i v m₁ nx I oI h tk, vs[i]? = some v → J i m₁ nx → (∀ p ∈ nx, p.1 ≠ I) → oI.cls = .type "tuple_iterator" → (∃ fs, oI.data = .fields fs) → Fr h₀ env.locals h (fun y => if y = x then some v else m₁ y) → News h₀ env.locals h ((I, oI) :: nx) →
      wpAny (model prog w) A (execs body env) (MyPost2 h₀ env.locals (I, oI) (J (i + 1)) { s with heap := h, toks := tk } Q) E { s with heap := h, toks := tk })
    (done : ∀ m' nx h tk, J vs.length m' nx → Fr h₀ env.locals h m' → News h₀ env.locals h nx → Q .next { s with heap := h, toks := tk }) :
    wpAny (model prog w) A (pyIter (.ref l)) (fun it s₂ => LoopAtV prog w A h₀ env x body Q E it s₂) E s := by
  obtain ⟨hget0, hneL⟩ := list_lt H F N
  have hl : s.heap.IsTuple l vs.toArray := ⟨lo, hget0, hc, n, hd⟩
  have hlt : l < s.heap.objs.size := Heap.lt_size hget0
  have hne : l ≠ s.heap.objs.size := Nat.ne_of_lt hlt
  refine wpAny_pyIter_tuple hl ?_
  have W := Walks.tuple (prog := prog) (w := w) hh s.heap.objs.size l hne vs.toArray
  rw [List.size_toArray] at W
  refine ⟨_, _, _, vs.length, _, _, m₀, news, J, rfl, W, ?_, ?_, ?_, ⟨⟨_, Heap.get?_push_size _ rfl, rfl, rfl⟩, hl.at fun o e => Heap.get?_push_of_some _ e⟩, F.push _, (fun p hp => ⟨Heap.get?_push_of_some _ (N p hp).1, (N p hp).2⟩), h0, ?_, ?_⟩
  · intro hm
    rcases List.mem_cons.mp hm with e | hm
    · exact absurd F.ns.lt (e ▸ Nat.lt_irrefl _)
    · exact hneL (List.mem_singleton.mp hm).symm
  · intro b hb
    rw [List.mem_singleton.mp hb]
    exact next_is_new F
  · intro p hp hI
    exact absurd (Heap.lt_size (N p hp).1) ((List.mem_singleton.mp hI) ▸ Nat.lt_irrefl _)
  · rintro i v m₁ news₁ s₁ own ⟨hh', tk', rfl⟩ hin hP hJ hoff hown hget hall hst F₁ N₁
    obtain ⟨⟨oI, hI, hIc, hId⟩, _⟩ := hst
    have hmI : (s.heap.objs.size, oI) ∈ own := hall _ (by simp) (next_is_new F) _ hI
    have N₂ : News h₀ env.locals hh' ((s.heap.objs.size, oI) :: news₁) := by
      intro p hp
      rcases List.mem_cons.mp hp with rfl | hp
      · exact N₁ _ (List.mem_append_left _ hmI)
      · exact N₁ _ (List.mem_append_right _ hp)
    have hv : vs[i]? = some v := by simpa using hP
    refine wpAny_mono (turn i v m₁ news₁ s.heap.objs.size oI hh' tk' hv hJ (fun p hp e => hoff p hp (by rw [e]; exact List.mem_singleton.mpr rfl)) hIc ⟨_, hId⟩ F₁ N₂) (fun f s₂ p => ?_) fun _ _ e => e
    have fin : MyEnd2 h₀ env.locals (s.heap.objs.size, oI) (J (i + 1)) { s with heap := hh', toks := tk' } s₂ → LoopStepU h₀ env.locals [s.heap.objs.size] own (J (i + 1)) { s with heap := hh', toks := tk' } .next s₂ := by
      rintro ⟨h', tk, m', news', nx, e, F', N', hit, hsub, hcls, hj⟩
      exact ⟨rfl, h', tk, m', nx, e, F', own_step H hJ N₁ hown hget hI hit hsub N' hj, (fun p hp hm => hcls p hp (List.mem_singleton.mp hm)), hj⟩
    cases f with
    | ret v => exact .ret p
    | brk => exact .brk p
    | next => exact .next (fin p)
    | cont => exact .cont (fin p)
  · rintro h' tk m' news' F' N' _ hJ
    exact done m' news' h' tk hJ F' N'
end
def mapW (c H Wa : Addr) (rest : Map) : Map := fun z => if z = Str.ofString "writings" then some (.ref Wa) else if z = Str.ofString "head" then some (.ref H) else if z = Str.ofString "codes" then some (.ref c) else rest z
theorem mapW_of {c H Wa : Addr} {m : Map} (h3 : m (Str.ofString "writings") = some (.ref Wa)) (h4 : m (Str.ofString "head") = some (.ref H)) (h5 : m (Str.ofString "codes") = some (.ref c)) : m = mapW c H Wa m := by
  funext z
  unfold mapW
  by_cases e3 : z = Str.ofString "writings"
  · subst e3; exact h3.trans (if_pos rfl).symm
  rw [if_neg e3]
  by_cases e4 : z = Str.ofString "head"
  · subst e4; exact h4.trans (if_pos rfl).symm
  rw [if_neg e4]
  by_cases e5 : z = Str.ofString "codes"
  · subst e5; exact h5.trans (if_pos rfl).symm
  rw [if_neg e5]
def mapWd (c H Wa : Addr) (wd : Int) (tw : Tok) (rest : Map) : Map := fun z => if z = Str.ofString "width" then some (.int wd tw) else mapW c H Wa rest z
theorem mapWd_of {c H Wa : Addr} {wd : Int} {tw : Tok} {m : Map} (h2 : m (Str.ofString "width") = some (.int wd tw)) (h3 : m (Str.ofString "writings") = some (.ref Wa)) (h4 : m (Str.ofString "head") = some (.ref H)) (h5 : m (Str.ofString "codes") = some (.ref c)) : m = mapWd c H Wa wd tw m := by
  funext z
  unfold mapWd
  by_cases e2 : z = Str.ofString "width"
  · subst e2; exact h2.trans (if_pos rfl).symm
  rw [if_neg e2]
  exact congrFun (mapW_of h3 h4 h5) z
theorem news_perm3 {h₀ h : Heap} {L : Addr} {a b x : Addr × Obj} {r : Led} (N : News h₀ L h (x :: a :: b :: r)) : News h₀ L h (a :: b :: x :: r) := fun p hp => N p (by
  rcases List.mem_cons.mp hp with e | hp
  · exact e ▸ .tail _ (.head _)
  rcases List.mem_cons.mp hp with e | hp
  · exact e ▸ .tail _ (.tail _ (.head _))
  rcases List.mem_cons.mp hp with e | hp
  · exact e ▸ .head _
  · exact .tail _ (.tail _ (.tail _ hp)))
def LpJ (H Wa : Addr) (ws hs : List Value) (Tp : Addr) (to : Obj) (rest : Led) (k : Nat) (mm : Map → Map) (i : Nat) (m : Map) (nx : Led) : Prop :=
  ∃ (ext : Led) (rm : Map) (vs : List Value) (n : Nat), nx = (Wa, W.listOf (ws ++ vs).toArray n) :: (H, W.listOf hs.toArray 0) :: (ext ++ (Tp, to) :: rest) ∧ m = mm rm ∧ (∀ q ∈ ext, q.1 ≠ Wa ∧ Plain q.2) ∧ (∀ v ∈ vs, Wr ext v) ∧ vs.length = k * i
def StepPost (h₀ : Heap) (L H Wa : Addr) (ws hs : List Value) (rest : Led) (k : Nat) (mm : Map → Map) (s : Shared) (f : Flow) (s' : Shared) : Prop :=
  f = .next ∧ ∃ (h' : Heap) (tk' : Nat) (ext : Led) (rm' : Map) (vs : List Value) (n' : Nat), s' = { s with heap := h', toks := tk' } ∧ Fr h₀ L h' (mm rm') ∧ News h₀ L h' ((Wa, W.listOf (ws ++ vs).toArray n') :: (H, W.listOf hs.toArray 0) :: (ext ++ rest)) ∧
        (∀ q ∈ ext, q.1 ≠ Wa ∧ Plain q.2) ∧ (∀ v ∈ vs, Wr ext v) ∧ vs.length = k
theorem step_of_turn {h₀ : Heap} {L c H Wa : Addr} {wd : Int} {tw : Tok} {lt : Bool} {ws hs : List Value} {n : Nat} {rest : Led} {s : Shared} {f : Flow} {s' : Shared} (h : TurnPost h₀ L c H Wa wd tw lt ws hs n rest s f s') : StepPost h₀ L H Wa ws hs rest 2 (mapWd c H Wa wd tw) s f s' := by
  obtain ⟨e, h', tk', ext, rm', v1, v2, e2, F, N, hx, w1, w2⟩ := h
  refine ⟨e, h', tk', ext, mapT c H Wa wd tw lt rm', [v1, v2], _, e2, ?_, N, hx, fun v hv => ?_, rfl⟩
  · rw [← mapWd_of (m := mapT c H Wa wd tw lt rm') rfl rfl rfl rfl]
    exact F
  · simp only [List.mem_cons, List.not_mem_nil, or_false] at hv
    rcases hv with rfl | rfl
    · exact w1
    · exact w2
theorem plain_off {h₀ h : Heap} {L I : Addr} {oI : Obj} {news : Led} {q : Addr × Obj} (N : News h₀ L h news) (hI : (I, oI) ∈ news) (hc : oI.cls = .type "tuple_iterator") (hq : q ∈ news) (hp : Plain q.2) : q.1 ≠ I := by
  intro e
  have h1 := (N q hq).1
  have h2 := (N _ hI).1
  dsimp only at h2
  rw [e, h2] at h1
  have h3 : oI = q.2 := Option.some.inj h1
  rw [h3] at hc
  rcases hp with hp | hp <;> (rw [hp] at hc; exact absurd hc (by decide))
theorem glue {h₀ : Heap} {L H Wa Tp I : Addr} {to oI : Obj} {ws hs vs : List Value} {ext rest : Led} {k i : Nat} {mm : Map → Map} {o1 : Obj} {s : Shared} {f : Flow} {s' : Shared} {Q : Flow → Shared → Prop}
    (hoff : ∀ p ∈ (Wa, o1) :: (H, W.listOf hs.toArray 0) :: (ext ++ (Tp, to) :: rest), p.1 ≠ I) (hIc : oI.cls = .type "tuple_iterator") (hx : ∀ q ∈ ext, q.1 ≠ Wa ∧ Plain q.2) (hv : ∀ v ∈ vs, Wr ext v) (hl : vs.length = k * i)
    (h : StepPost h₀ L H Wa (ws ++ vs) hs ((I, oI) :: (ext ++ (Tp, to) :: rest)) k mm s f s') : MyPost2 h₀ L (I, oI) (LpJ H Wa ws hs Tp to rest k mm (i + 1)) s Q f s' := by
  obtain ⟨rfl, h', tk', ext2, rm', vs2, n', rfl, F, N, hx2, hw, hl2⟩ := h
  have hIm : (I, oI) ∈ (Wa, W.listOf (ws ++ vs ++ vs2).toArray n') :: (H, W.listOf hs.toArray 0) :: (ext2 ++ (I, oI) :: (ext ++ (Tp, to) :: rest)) :=
    .tail _ (.tail _ (List.mem_append_right _ (.head _)))
  refine end2 (nx := (Wa, W.listOf (ws ++ vs ++ vs2).toArray n') :: (H, W.listOf hs.toArray 0) :: (ext2 ++ (ext ++ (Tp, to) :: rest))) F N hIm (fun p hp => ?_) (fun p hp => ?_) ⟨ext2 ++ ext, rm', vs ++ vs2, n', ?_, rfl, ?_, ?_, ?_⟩
  · rcases List.mem_cons.mp hp with e | hp
    · exact e ▸ .head _
    rcases List.mem_cons.mp hp with e | hp
    · exact e ▸ .tail _ (.head _)
    rcases List.mem_append.mp hp with hp | hp
    · exact .tail _ (.tail _ (List.mem_append_left _ hp))
    · exact .tail _ (.tail _ (List.mem_append_right _ (.tail _ hp)))
  · rcases List.mem_cons.mp hp with e | hp
    · rw [e]; exact hoff (Wa, o1) (.head _)
    rcases List.mem_cons.mp hp with e | hp
    · rw [e]; exact hoff (H, W.listOf hs.toArray 0) (.tail _ (.head _))
    rcases List.mem_append.mp hp with hp | hp
    · exact plain_off N hIm hIc (.tail _ (.tail _ (List.mem_append_left _ hp))) (hx2 p hp).2
    · exact hoff p (.tail _ (.tail _ hp))
  · rw [List.append_assoc, List.append_assoc]
  · intro q hq
    rcases List.mem_append.mp hq with hq | hq
    · exact hx2 q hq
    · exact hx q hq
  · intro v hv'
    rcases List.mem_append.mp hv' with hv' | hv'
    · exact (hv v hv').mono fun p hp => List.mem_append_right _ hp
    · exact (hw v hv').mono fun p hp => List.mem_append_left _ hp
  · rw [List.length_append, hl, hl2]
    exact (Nat.mul_succ k i).symm
section
variable {prog : Program} {w : World} {s : Shared} {p : Program} {loose : List PySem.Str} {mean : ExcName → Option Value} {mg mb : Map} {h₀ : Heap} {L : Addr}
    {oc doc pm cdv ct dV kV : Value} {od : Option Addr} {osl : Array (Option Value)} {name qual : PySem.Str} {params : Arguments} {body : List Stmt} {scope : Scope} {an : Option Addr}
theorem turn_any (ho : (hd.heap_39 w.params).lookup 52 = some ⟨oc, od, .func (fnOf name qual params body scope dV kV doc pm an cdv ct), osl⟩)
    {c H Wa : Addr} {wd : Int} {lt : Bool} {tw : Tok} {rm : Map} {rest : Led} {ws hs : List Value} {n : Nat} {c0 : Int} {cr : List Int} (hw : wd = 2 ∨ wd = 4) (X : (hd.heap_39 w.params).In h₀) (T : Top p loose mean mg mb h₀) (F : Fr h₀ L s.heap (mapT c H Wa wd tw lt rm))
    (N : News h₀ L s.heap ((Wa, W.listOf ws.toArray n) :: (H, W.listOf hs.toArray 0) :: rest)) (hWH : Wa ≠ H) (hWr : ∀ q ∈ rest, q.1 ≠ Wa)
    (hi : IntsAre hs (c0 :: cr)) (hlen : (c0 :: cr).length ≤ 6) (h0 : 1 ≤ c0) (h1 : c0 ≤ 127) (hcr : ∀ n ∈ cr, Cd n) (hws : ws.length ≤ 20) :
    wpAny (model prog w) (callerA.deeper (envOf qual scope L 52 cdv)) (execs (forBody (nth (forBody (nth (forBody (nth body 4)) 2)) 0)) (envOf qual scope L 52 cdv))
      (TurnPost h₀ L c H Wa wd tw lt ws hs n rest s) noE s := by
  rcases hw with rfl | rfl <;> cases lt
  · exact turn_2f ho X T F N hWH hWr hi hlen h0 h1 hcr hws
  · exact turn_2t ho X T F N hWH hWr hi hlen h0 h1 hcr hws
  · exact turn_4f ho X T F N hWH hWr hi hlen h0 h1 hcr hws
  · exact turn_4t ho X T F N hWH hWr hi hlen h0 h1 hcr hws
end
theorem execs_one {prog : Program} {w : World} {A : Around} {E : Value → Shared → Prop} {s : Shared} {env : Env} {st : Stmt} {Q : Flow → Shared → Prop} (h : wpAny (model prog w) A (exec st env) Q E s) : wpAny (model prog w) A (execs [st] env) Q E s := by
  refine wpAny_execs_cons (wpAny_mono h (fun f s' h' => ?_) fun _ _ x => x)
  cases f
  · exact wpAny_execs_nil h'
  all_goals exact h'
local macro_rules | `(tactic| walk_at "exec For Name Tuple cons nil") => `(tactic| k_dflt (refine' For_invVF ?F ?k1 ?k2 ?_ ?hs ?hE; (case F => k_asm); (case k1 => exact rfl); (case k2 => exact rfl); (case hs => (intro _; rfl)); (case hE => passes_own)))
local macro_rules | `(tactic| walk_at "pyIter ref") => `(tactic| k_dflt (k_extra "my loop"))

theorem little_run {prog : Program} {w : World} {s : Shared} {p : Program} {loose : List PySem.Str} {mean : ExcName → Option Value} {mg mb : Map} {h₀ : Heap} {L : Addr}
    {oc doc pm cdv ct dV kV : Value} {od : Option Addr} {osl : Array (Option Value)} {name qual : PySem.Str} {params : Arguments} {body : List Stmt} {scope : Scope} {an : Option Addr}
    (ho : (hd.heap_39 w.params).lookup 52 = some ⟨oc, od, .func (fnOf name qual params body scope dV kV doc pm an cdv ct), osl⟩)
    {c H Wa : Addr} {wd : Int} {tw : Tok} {rm : Map} {rest : Led} {ws hs : List Value} {n : Nat} {c0 : Int} {cr : List Int} (hw : wd = 2 ∨ wd = 4) (X : (hd.heap_39 w.params).In h₀) (T : Top p loose mean mg mb h₀) (F : Fr h₀ L s.heap (mapWd c H Wa wd tw rm))
    (N : News h₀ L s.heap ((Wa, W.listOf ws.toArray n) :: (H, W.listOf hs.toArray 0) :: rest)) (hWH : Wa ≠ H) (hWr : ∀ q ∈ rest, q.1 ≠ Wa)
    (hi : IntsAre hs (c0 :: cr)) (hlen : (c0 :: cr).length ≤ 6) (h0 : 1 ≤ c0) (h1 : c0 ≤ 127) (hcr : ∀ n ∈ cr, Cd n) (hws : ws.length ≤ 10) :
    wpAny (model prog w) (callerA.deeper (envOf qual scope L 52 cdv)) (exec (nth (forBody (nth (forBody (nth body 4)) 2)) 0) (envOf qual scope L 52 cdv))
      (StepPost h₀ L H Wa ws hs rest 4 (mapW c H Wa) s) noE s := by
  refine' cut_fn ho ?k (fun e => ?_)
  case k => k_is
  cases e
  unfold mapWd mapW at F
  k_with_none
  change wpAny _ _ (exec (.For _ _ _ _ _) _) _ _ _
  k_fold
  k_steps

  rename Fr _ _ _ _ => F5
  rename News _ _ _ _ => N5
  rename Wa < _ ∧ H < _ ∧ AllLt _ _ => lq
  rename Addr => Tp
  refine' for_tup2 (l := Tp) (lo := tupObj [.bool false, .bool true]) (vs := [.bool false, .bool true]) (n := 0) (LpJ H Wa ws hs Tp (tupObj [.bool false, .bool true]) rest 2 (mapWd c H Wa wd tw)) ?hh ?F ?N ?H ?hc ?hd ?h0 ?turn ?done
  case hh => exact rfl
  case F => exact F5
  case N => exact (show News _ _ _ ((Wa, W.listOf (ws ++ []).toArray n) :: (H, W.listOf hs.toArray 0) :: ([] ++ (Tp, tupObj [.bool false, .bool true]) :: rest)) from (List.append_nil ws).symm ▸ news_perm3 N5)
  case H => exact Or.inr ⟨.tail _ (.tail _ (.head _)), fun i m nx ⟨_, _, _, _, e, _⟩ => e ▸ .tail _ (.tail _ (List.mem_append_right _ (.head _)))⟩
  case hc => exact rfl
  case hd => exact rfl
  case h0 => exact ⟨[], rm, [], n, rfl, rfl, (fun _ h => nomatch h), (fun _ h => nomatch h), rfl⟩
  case turn =>
    rintro i v m₁ nx I oI h₂ tk₂ hv ⟨ext, rm', vs, n', rfl, rfl, hx, hWv, hvl⟩ hoff hIc hId F₁ N₁
    obtain ⟨lt, rfl, hi1⟩ : ∃ lt : Bool, v = .bool lt ∧ i ≤ 1 := by
      match i, hv with
      | 0, hv => exact ⟨false, (Option.some.inj hv).symm, by decide⟩
      | 1, hv => exact ⟨true, (Option.some.inj hv).symm, by decide⟩
      | _ + 2, hv => cases hv
    have F₂ : Fr h₀ L h₂ (mapT c H Wa wd tw lt rm') := F₁
    have N₂ : News h₀ L h₂ ((Wa, W.listOf (ws ++ vs).toArray n') :: (H, W.listOf hs.toArray 0) :: ((I, oI) :: (ext ++ (Tp, tupObj [.bool false, .bool true]) :: rest))) := news_perm3 N₁
    exact wpAny_mono (turn_any (s := { s with heap := h₂, toks := tk₂ }) (lt := lt) (rm := rm') (ws := ws ++ vs) (rest := (I, oI) :: (ext ++ (Tp, tupObj [.bool false, .bool true]) :: rest)) ho hw X T F₂ N₂ hWH (fun q hq => by
        rcases List.mem_cons.mp hq with e | hq
        · rw [e]; exact (hoff _ (.head _)).symm
        rcases List.mem_append.mp hq with hq | hq
        · exact (hx q hq).1
        rcases List.mem_cons.mp hq with e | hq
        · rw [e]; exact Nat.ne_of_gt lq.1
        · exact hWr q hq) hi hlen h0 h1 hcr (by rw [List.length_append, hvl]; omega)) (fun f s' hp => glue hoff hIc hx hWv hvl (step_of_turn hp)) fun _ _ x => x
  case done =>
    rintro m' nx h₂ tk₂ ⟨ext, rm', vs, n', rfl, rfl, hx, hWv, hvl⟩ F₁ N₁
    refine ⟨rfl, h₂, tk₂, ext ++ [(Tp, tupObj [.bool false, .bool true])], mapWd c H Wa wd tw rm', vs, n', rfl, ?_, ?_, ?_, ?_, hvl⟩
    · rw [← mapW_of (m := mapWd c H Wa wd tw rm') rfl rfl rfl]
      exact F₁
    · rw [List.append_assoc]
      exact N₁
    · intro q hq
      rcases List.mem_append.mp hq with hq | hq
      · exact hx q hq
      · rw [List.mem_singleton.mp hq]
        exact ⟨Nat.ne_of_gt lq.1, .inl rfl⟩
    · exact fun v hv => (hWv v hv).mono fun p hp => List.mem_append_left _ hp

theorem width_run {prog : Program} {w : World} {s : Shared} {p : Program} {loose : List PySem.Str} {mean : ExcName → Option Value} {mg mb : Map} {h₀ : Heap} {L : Addr}
    {oc doc pm cdv ct dV kV : Value} {od : Option Addr} {osl : Array (Option Value)} {name qual : PySem.Str} {params : Arguments} {body : List Stmt} {scope : Scope} {an : Option Addr}
    (ho : (hd.heap_39 w.params).lookup 52 = some ⟨oc, od, .func (fnOf name qual params body scope dV kV doc pm an cdv ct), osl⟩)
    {c H Wa : Addr} {rm : Map} {rest : Led} {ws hs : List Value} {n : Nat} {c0 : Int} {cr : List Int} (X : (hd.heap_39 w.params).In h₀) (T : Top p loose mean mg mb h₀) (F : Fr h₀ L s.heap (mapW c H Wa rm))
    (N : News h₀ L s.heap ((Wa, W.listOf ws.toArray n) :: (H, W.listOf hs.toArray 0) :: rest)) (hWH : Wa ≠ H) (hWr : ∀ q ∈ rest, q.1 ≠ Wa)
    (hi : IntsAre hs (c0 :: cr)) (hlen : (c0 :: cr).length ≤ 6) (h0 : 1 ≤ c0) (h1 : c0 ≤ 127) (hcr : ∀ n ∈ cr, Cd n) (hws : ws.length ≤ 2) :
    wpAny (model prog w) (callerA.deeper (envOf qual scope L 52 cdv)) (exec (nth (forBody (nth body 4)) 2) (envOf qual scope L 52 cdv))
      (StepPost h₀ L H Wa ws hs rest 8 (mapW c H Wa) s) noE s := by
  refine' cut_fn ho ?k (fun e => ?_)
  case k => k_is
  cases e
  unfold mapW at F
  k_with_none
  change wpAny _ _ (exec (.For _ _ _ _ _) _) _ _ _
  k_fold
  k_steps
  rename Fr _ _ _ _ => F5
  rename News _ _ _ _ => N5
  rename Wa < _ ∧ H < _ ∧ AllLt _ _ => lq
  rename Addr => Tp
  refine' for_tup2 (l := Tp) (lo := tupObj [.int 2 s.toks, .int 4 (s.toks + 1)]) (vs := [.int 2 s.toks, .int 4 (s.toks + 1)]) (n := 0) (LpJ H Wa ws hs Tp (tupObj [.int 2 s.toks, .int 4 (s.toks + 1)]) rest 4 (mapW c H Wa)) ?hh ?F ?N ?H ?hc ?hd ?h0 ?turn ?done
  case hh => exact rfl
  case F => exact F5
  case N => exact (show News _ _ _ ((Wa, W.listOf (ws ++ []).toArray n) :: (H, W.listOf hs.toArray 0) :: ([] ++ (Tp, tupObj [.int 2 s.toks, .int 4 (s.toks + 1)]) :: rest)) from (List.append_nil ws).symm ▸ news_perm3 N5)
  case H => exact Or.inr ⟨.tail _ (.tail _ (.head _)), fun i m nx ⟨_, _, _, _, e, _⟩ => e ▸ .tail _ (.tail _ (List.mem_append_right _ (.head _)))⟩
  case hc => exact rfl
  case hd => exact rfl
  case h0 => exact ⟨[], rm, [], n, rfl, rfl, (fun _ h => nomatch h), (fun _ h => nomatch h), rfl⟩
  case turn =>
    rintro i v m₁ nx I oI h₂ tk₂ hv ⟨ext, rm', vs, n', rfl, rfl, hx, hWv, hvl⟩ hoff hIc hId F₁ N₁
    obtain ⟨wd, tw, hw, rfl, hi1⟩ : ∃ (wd : Int) (tw : Tok), (wd = 2 ∨ wd = 4) ∧ v = .int wd tw ∧ i ≤ 1 := by
      match i, hv with
      | 0, hv => exact ⟨2, _, .inl rfl, (Option.some.inj hv).symm, by decide⟩
      | 1, hv => exact ⟨4, _, .inr rfl, (Option.some.inj hv).symm, by decide⟩
      | _ + 2, hv => cases hv
    have F₂ : Fr h₀ L h₂ (mapWd c H Wa wd tw rm') := F₁
    have N₂ : News h₀ L h₂ ((Wa, W.listOf (ws ++ vs).toArray n') :: (H, W.listOf hs.toArray 0) :: ((I, oI) :: (ext ++ (Tp, tupObj [.int 2 s.toks, .int 4 (s.toks + 1)]) :: rest))) := news_perm3 N₁
    have st := little_run (prog := prog) (s := { s with heap := h₂, toks := tk₂ }) (rm := rm') (ws := ws ++ vs) (rest := (I, oI) :: (ext ++ (Tp, tupObj [.int 2 s.toks, .int 4 (s.toks + 1)]) :: rest)) ho hw X T F₂ N₂ hWH (fun q hq => by
        rcases List.mem_cons.mp hq with e | hq
        · rw [e]; exact (hoff _ (.head _)).symm
        rcases List.mem_append.mp hq with hq | hq
        · exact (hx q hq).1
        rcases List.mem_cons.mp hq with e | hq
        · rw [e]; exact Nat.ne_of_gt lq.1
        · exact hWr q hq) hi hlen h0 h1 hcr (by rw [List.length_append, hvl]; omega)
    refine execs_one (wpAny_mono (Q := StepPost h₀ L H Wa (ws ++ vs) hs ((I, oI) :: (ext ++ (Tp, tupObj [.int 2 s.toks, .int 4 (s.toks + 1)]) :: rest)) 4 (mapW c H Wa) { s with heap := h₂, toks := tk₂ }) ?_ (fun f s' hp => glue hoff hIc hx hWv hvl hp) fun _ _ x => x)
    exact st
  case done =>
    rintro m' nx h₂ tk₂ ⟨ext, rm', vs, n', rfl, rfl, hx, hWv, hvl⟩ F₁ N₁
    refine ⟨rfl, h₂, tk₂, ext ++ [(Tp, tupObj [.int 2 s.toks, .int 4 (s.toks + 1)])], rm', vs, n', rfl, F₁, ?_, ?_, ?_, hvl⟩
    · rw [List.append_assoc]
      exact N₁
    · intro q hq
      rcases List.mem_append.mp hq with hq | hq
      · exact hx q hq
      · rw [List.mem_singleton.mp hq]
        exact ⟨Nat.ne_of_gt lq.1, .inl rfl⟩
    · exact fun v hv => (hWv v hv).mono fun p hp => List.mem_append_left _ hp
end Mine

namespace Mine
theorem off_T7 : True := by
  w_top off
  trivial
local macro_rules | `(tactic| walk_at "call ref cons nil") => `(tactic| k_dflt (k_extra "my call"))
def mapC (c : Addr) (k : Int) (t : Tok) (rest : Map) : Map := fun z => if z = Str.ofString "size" then some (.int k t) else if z = Str.ofString "codes" then some (.ref c) else rest z
def HeadPost (h₀ : Heap) (L c : Addr) (k : Nat) (t : Tok) (cv : List Value) (nc : Nat) (cs : List Int) (rest : Led) (s : Shared) (f : Flow) (s' : Shared) : Prop :=
  f = .next ∧ ∃ h' tk' H hs rm', s' = { s with heap := h', toks := tk' } ∧ Fr h₀ L h' (fun z => if z = Str.ofString "head" then some (.ref H) else mapC c k t rm' z) ∧ News h₀ L h' ((H, W.listOf hs.toArray 0) :: (c, W.listOf cv.toArray nc) :: rest) ∧ IntsAre hs (cs.take k)
def WritPost (h₀ : Heap) (L c H : Addr) (hs : List Value) (rest : Led) (s : Shared) (f : Flow) (s' : Shared) : Prop :=
  f = .next ∧ ∃ h' tk' Wa rm' ext v1 v2, s' = { s with heap := h', toks := tk' } ∧ Fr h₀ L h' (mapW c H Wa rm') ∧ News h₀ L h' ((Wa, W.listOf [v1, v2].toArray 0) :: (H, W.listOf hs.toArray 0) :: (ext ++ rest)) ∧ Wa ≠ H ∧ (∀ q ∈ ext ++ rest, q.1 ≠ Wa) ∧ (∀ q ∈ ext, Plain q.2) ∧ Wr ext v1 ∧ Wr ext v2
theorem head_run {prog : Program} {w : World} {s : Shared} {p : Program} {loose : List PySem.Str} {mean : ExcName → Option Value} {mg mb : Map} {h₀ : Heap} {L : Addr}
    {oc doc pm cdv ct dV kV : Value} {od : Option Addr} {osl : Array (Option Value)} {name qual : PySem.Str} {params : Arguments} {body : List Stmt} {scope : Scope} {an : Option Addr}
    (ho : (hd.heap_39 w.params).lookup 52 = some ⟨oc, od, .func (fnOf name qual params body scope dV kV doc pm an cdv ct), osl⟩)
    {c : Addr} {rm : Map} {rest : Led} {cv : List Value} {nc k : Nat} {t : Tok} {cs : List Int} (X : (hd.heap_39 w.params).In h₀) (T : Top p loose mean mg mb h₀) (F : Fr h₀ L s.heap (mapC c k t rm))
    (N : News h₀ L s.heap ((c, W.listOf cv.toArray nc) :: rest)) (hi : IntsAre cv cs) (hlen : cs.length ≤ 6) (hk : k ≤ cs.length) :
    wpAny (model prog w) (callerA.deeper (envOf qual scope L 52 cdv)) (exec (nth (forBody (nth body 4)) 0) (envOf qual scope L 52 cdv))
      (HeadPost h₀ L c k t cv nc cs rest s) noE s := by
  refine' cut_fn ho ?k (fun e => ?_)
  case k => k_is
  cases e
  clear ho
  have hlen0 := hi.length
  unfold mapC at F
  k_with_none
  change wpAny _ _ (exec (.Assign _ _ _) _) _ _ _
  k_fold
  k_steps
  rename Fr _ _ _ _ => F'
  rename News _ _ _ _ => N'
  rename IntsAre _ (List.take _ _) => hI'
  exact ⟨rfl, _, _, _, _, rm, rfl, F', N', hI'⟩
theorem writ_end {h₀ h' : Heap} {L c H Wa D1 l1 D2 l2 : Addr} {t1 t2 : Tok} {hs ws1 ws2 : List Value} {rest : Led} {s : Shared} {tk : Nat} {m' : Map} {x3 x4 : Addr × Obj} {a1 a2 : PySem.Str} {ns1 ns2 : List Int}
    (F' : Fr h₀ L h' m') (N' : News h₀ L h' ((Wa, W.listOf #[Value.ref D1, Value.ref D2] 0) :: (D2, tupObj [.ref l2, .str a2 t2]) :: (l2, W.listOf ws2.toArray 0) :: x3 :: x4 :: (D1, tupObj [.ref l1, .str a1 t1]) :: (l1, W.listOf ws1.toArray 0) :: (H, W.listOf hs.toArray 0) :: rest))
    (lq : D2 < Wa ∧ l2 < Wa ∧ x3.1 < Wa ∧ x4.1 < Wa ∧ D1 < Wa ∧ l1 < Wa ∧ H < Wa ∧ AllLt Wa rest) (hI1 : IntsAre ws1 ns1) (hI2 : IntsAre ws2 ns2) (hb1 : Byt ns1) (hb2 : Byt ns2) (hz1 : ns1.length ≤ 40) (hz2 : ns2.length ≤ 40) (hd1 : detS ns1 = a1) (hd2 : detS ns2 = a2)
    (h3 : m' (Str.ofString "writings") = some (.ref Wa)) (h4 : m' (Str.ofString "head") = some (.ref H)) (h5 : m' (Str.ofString "codes") = some (.ref c)) :
    WritPost h₀ L c H hs rest s .next { s with heap := h', toks := tk } := by
  refine ⟨rfl, h', tk, Wa, m', [(D2, tupObj [.ref l2, .str a2 t2]), (l2, W.listOf ws2.toArray 0), (D1, tupObj [.ref l1, .str a1 t1]), (l1, W.listOf ws1.toArray 0)], .ref D1, .ref D2, rfl, mapW_of h3 h4 h5 ▸ F', ?_, Nat.ne_of_gt lq.2.2.2.2.2.2.1, ?_, ?_, ?_, ?_⟩
  · intro q hq
    refine N' q ?_
    simp only [List.mem_cons, List.cons_append, List.nil_append] at hq ⊢
    rcases hq with e | e | e | e | e | e | e
    · exact .inl e
    · exact .inr (.inr (.inr (.inr (.inr (.inr (.inr (.inl e)))))))
    · exact .inr (.inl e)
    · exact .inr (.inr (.inl e))
    · exact .inr (.inr (.inr (.inr (.inr (.inl e)))))
    · exact .inr (.inr (.inr (.inr (.inr (.inr (.inl e))))))
    · exact .inr (.inr (.inr (.inr (.inr (.inr (.inr (.inr e)))))))
  · intro q hq
    rcases List.mem_append.mp hq with hq | hq
    · simp only [List.mem_cons, List.not_mem_nil, or_false] at hq
      rcases hq with rfl | rfl | rfl | rfl
      · exact Nat.ne_of_lt lq.1
      · exact Nat.ne_of_lt lq.2.1
      · exact Nat.ne_of_lt lq.2.2.2.2.1
      · exact Nat.ne_of_lt lq.2.2.2.2.2.1
    · exact Nat.ne_of_lt (ktn_ltOf lq.2.2.2.2.2.2.2 q hq)
  · intro q hq
    simp only [List.mem_cons, List.not_mem_nil, or_false] at hq
    rcases hq with rfl | rfl | rfl | rfl
    · exact .inl rfl
    · exact .inr rfl
    · exact .inl rfl
    · exact .inr rfl
  · exact ⟨D1, l1, ws1, ns1, t1, a1, rfl, .tail _ (.tail _ (.head _)), .tail _ (.tail _ (.tail _ (.head _))), hI1, hb1, hz1, hd1⟩
  · exact ⟨D2, l2, ws2, ns2, t2, a2, rfl, .head _, .tail _ (.head _), hI2, hb2, hz2, hd2⟩
theorem writ_run {prog : Program} {w : World} {s : Shared} {p : Program} {loose : List PySem.Str} {mean : ExcName → Option Value} {mg mb : Map} {h₀ : Heap} {L : Addr}
    {oc doc pm cdv ct dV kV : Value} {od : Option Addr} {osl : Array (Option Value)} {name qual : PySem.Str} {params : Arguments} {body : List Stmt} {scope : Scope} {an : Option Addr}
    (ho : (hd.heap_39 w.params).lookup 52 = some ⟨oc, od, .func (fnOf name qual params body scope dV kV doc pm an cdv ct), osl⟩)
    {c H : Addr} {rm : Map} {rest : Led} {hs : List Value} {k : Nat} {t : Tok} {c0 : Int} {cr : List Int} (X : (hd.heap_39 w.params).In h₀) (T : Top p loose mean mg mb h₀) (F : Fr h₀ L s.heap (fun z => if z = Str.ofString "head" then some (.ref H) else mapC c k t rm z))
    (N : News h₀ L s.heap ((H, W.listOf hs.toArray 0) :: rest)) (hi : IntsAre hs (c0 :: cr)) (hlen : (c0 :: cr).length ≤ 6) (h0 : 1 ≤ c0) (h1 : c0 ≤ 127) (hcr : ∀ n ∈ cr, Cd n) :
    wpAny (model prog w) (callerA.deeper (envOf qual scope L 52 cdv)) (exec (nth (forBody (nth body 4)) 1) (envOf qual scope L 52 cdv))
      (WritPost h₀ L c H hs rest s) noE s := by
  refine' cut_fn ho ?k (fun e => ?_)
  case k => k_is
  cases e
  clear ho
  have hbd : ∀ n ∈ (c0 :: cr), 0 ≤ n ∧ n < 1114112 := fun n hn => by
    rcases List.mem_cons.mp hn with rfl | hn
    · omega
    · have := hcr n hn; unfold Cd at this; omega
  have hz24 : (eightsL (c0 :: cr)).length ≤ 24 := Nat.le_trans (eightsL_len _) (by omega)
  unfold mapC at F
  k_with_none
  k_with "my call" => (
       refine' eights_stepN (ns := c0 :: cr) ?w1F ?w1N ?w1X ?w1T ?w1l ?w1i ?w1z ?w1b ?_
       case w1F => k_asm
       case w1N => k_asm
       case w1X => k_asm
       case w1T => k_asm
       case w1l => is_list
       case w1i => exact hi
       case w1z => exact Nat.le_trans hlen (by decide)
       case w1b => exact hbd
       intro l1 ws1 h' tk' F' N' hI1 hD1
       have hz1 := hz24
       have hw1 : ws1.length ≤ 24 := hI1.length.symm ▸ hz24)
  change wpAny _ _ (exec (.Assign _ _ _) _) _ _ _
  k_fold
  k_steps
  rename Fr _ _ _ _ => F'
  rename News _ _ _ _ => N'
  rename _ < _ ∧ _ < _ ∧ _ < _ ∧ _ < _ ∧ _ < _ ∧ _ < _ ∧ _ < _ ∧ AllLt _ _ => lq
  rename IntsAre _ (_ ++ _) => hI2
  rename IntsAre _ (eightsL _) => hIb
  clear hIb
  rename IntsAre _ (eightsL _) => hIa
  refine writ_end F' N' lq hIa hI2 (eightsL_byt hbd) (byt_app (by unfold Byt; decide) (eightsL_byt hbd)) (by omega) (by rw [List.length_append]; exact Nat.le_trans (Nat.add_le_add_left hz24 3) (by decide)) (det_eights h0 h1 hcr) (det_sig _) rfl rfl rfl
end Mine

namespace Mine
theorem off_T8 : True := by
  w_top off
  trivial
local macro_rules | `(tactic| walk_at "call ref cons nil") => `(tactic| k_dflt (k_extra "my call"))
local macro_rules | `(tactic| walk_at "call type:bytes") => `(tactic| k_dflt (k_extra "my bytes"))
def ifTest : Stmt → PySem.Expr
  | .If t _ _ _ => t
  | _ => .Constant .none 0 default
def boolPart (i : Nat) : PySem.Expr → PySem.Expr
  | .BoolOp _ es _ => es.getD i (.Constant .none 0 default)
  | e => e
def cmpLeft : PySem.Expr → PySem.Expr
  | .Compare l _ _ _ => l
  | e => e
def mapX (c l : Addr) (wanted : PySem.Str) (t : Tok) (rest : Map) : Map := fun z => if z = Str.ofString "wanted" then some (.str wanted t) else if z = Str.ofString "written" then some (.ref l) else if z = Str.ofString "codes" then some (.ref c) else rest z
def ChkPost (h₀ : Heap) (L : Addr) (m : Map) (news : Led) (s : Shared) (b : Bool) (s' : Shared) : Prop := b = false ∧ ∃ h' tk', s' = { s with heap := h', toks := tk' } ∧ Fr h₀ L h' m ∧ News h₀ L h' news
theorem check1 {prog : Program} {w : World} {s : Shared} {p : Program} {loose : List PySem.Str} {mean : ExcName → Option Value} {mg mb : Map} {h₀ : Heap} {L : Addr}
    {oc doc pm cdv ct dV kV : Value} {od : Option Addr} {osl : Array (Option Value)} {name qual : PySem.Str} {params : Arguments} {body : List Stmt} {scope : Scope} {an : Option Addr}
    (ho : (hd.heap_39 w.params).lookup 52 = some ⟨oc, od, .func (fnOf name qual params body scope dV kV doc pm an cdv ct), osl⟩)
    {c l : Addr} {wanted : PySem.Str} {t : Tok} {rm : Map} {rest : Led} {ws : List Value} {ns : List Int} (X : (hd.heap_39 w.params).In h₀) (T : Top p loose mean mg mb h₀) (F : Fr h₀ L s.heap (mapX c l wanted t rm))
    (N : News h₀ L s.heap ((l, W.listOf ws.toArray 0) :: rest)) (hi : IntsAre ws ns) (hb : Byt ns) (hlen : ns.length ≤ 40) (hdt : detS ns = wanted) :
    wpAny (model prog w) (callerA.deeper (envOf qual scope L 52 cdv)) (isTrue (boolPart 0 (ifTest (nth (forBody (nth (forBody (nth body 4)) 3)) 0))) (envOf qual scope L 52 cdv) (eval (boolPart 0 (ifTest (nth (forBody (nth (forBody (nth body 4)) 3)) 0))) (envOf qual scope L 52 cdv)))
      (ChkPost h₀ L (mapX c l wanted t rm) ((l, W.listOf ws.toArray 0) :: rest) s) noE s := by
  refine' cut_fn ho ?k (fun e => ?_)
  case k => k_is
  cases e
  clear ho
  have hlen0 := hi.length
  unfold mapX at F
  k_with_none
  k_with "my bytes" => (
    refine' bytes_K ?bF ?bN ?bl hi ?bB ?bz ?bh ?_
    case bF => k_asm
    case bN => k_asm
    case bl => is_list
    case bB => exact hb
    case bz => (rw [hlen0, sizeLine_eq]; omega)
    case bh => exact rfl
    intro hb' tb' kb' Fb' Nb' _)
  k_with "my call" => (
       refine' detect_step (ns := ns) ?dF ?dN ?dX ?dT ?dH ?db ?dz ?_
       case dF => k_asm
       case dN => k_asm
       case dX => k_asm
       case dT => k_asm
       case dH => exact Or.inl ⟨_, rfl⟩
       case db => exact hb
       case dz => exact Nat.le_trans hlen (by decide)
       intro t' h' tk' F' N'
       rw [hdt])
  change wpAny _ _ (isTrue (.Compare _ _ _ _) _ _) _ _ _
  k_fold
  k_steps
  exact ⟨bne_self_eq_false _, _, _, rfl, F', N'⟩
theorem check2 {prog : Program} {w : World} {s : Shared} {p : Program} {loose : List PySem.Str} {mean : ExcName → Option Value} {mg mb : Map} {h₀ : Heap} {L : Addr}
    {oc doc pm cdv ct dV kV : Value} {od : Option Addr} {osl : Array (Option Value)} {name qual : PySem.Str} {params : Arguments} {body : List Stmt} {scope : Scope} {an : Option Addr}
    (ho : (hd.heap_39 w.params).lookup 52 = some ⟨oc, od, .func (fnOf name qual params body scope dV kV doc pm an cdv ct), osl⟩)
    {c l : Addr} {wanted : PySem.Str} {t : Tok} {rm : Map} {rest : Led} {ws : List Value} {ns : List Int} (X : (hd.heap_39 w.params).In h₀) (T : Top p loose mean mg mb h₀) (F : Fr h₀ L s.heap (mapX c l wanted t rm))
    (N : News h₀ L s.heap ((l, W.listOf ws.toArray 0) :: rest)) (hi : IntsAre ws ns) (hb : Byt ns) (hlen : ns.length ≤ 40) (hdt : detS ns = wanted) :
    wpC (model prog w) (callerA.deeper (envOf qual scope L 52 cdv)) (isTrue (boolPart 1 (ifTest (nth (forBody (nth (forBody (nth body 4)) 3)) 0))) (envOf qual scope L 52 cdv) (eval (boolPart 1 (ifTest (nth (forBody (nth (forBody (nth body 4)) 3)) 0))) (envOf qual scope L 52 cdv)))
      (ChkPost h₀ L (mapX c l wanted t rm) ((l, W.listOf ws.toArray 0) :: rest) s) noE s := by
  refine' cut_fn ho ?k (fun e => ?_)
  case k => k_is
  cases e
  clear ho
  have hlen0 := hi.length
  unfold mapX at F
  k_with_none
  change wpC _ _ (isTrue (.Compare _ _ _ _) _ _) _ _ _
  refine wpC_Compare1 ?_
  refine wpC_Call ?_
  k_fold
  k_steps
  change wpC _ _ (callWith _ _ [] [(false, eval _ _)] []) _ _ _
  refine wpC_callWith_K1 (K := hd.heap_39 w.params) (by k_is) ?_
  refine wpC_Call ?_
  k_steps
  change wpC _ _ (callWith _ _ [] [(false, eval _ _)] []) _ _ _
  refine wpC_callWith_type ?_
  k_steps
  refine call_ba rfl ?hl hi hb (Nat.le_trans hlen (by decide)) (fun h₂ ho₂ hk₂ => ?_)
  case hl => is_list
  rename Fr _ _ _ _ => F5
  rename News _ _ _ _ => N5
  obtain ⟨F6, N6⟩ := after_call F5 N5 hk₂
  clear F5 N5
  refine ⟨X.keeps F6.keep, ?_⟩
  refine detect_step (ns := ns) F6 N6 X T (Or.inr ⟨_, rfl, ho₂⟩) hb (Nat.le_trans hlen (by decide)) ?_
  intro t' h' tk' F' N'
  clear F6 N6
  rw [hdt]
  k_steps
  exact ⟨bne_self_eq_false _, _, _, rfl, F', N'⟩
end Mine

namespace Mine
theorem off_T9 : True := by
  w_top off
  trivial
def mapK (c : Addr) (rest : Map) : Map := fun z => if z = Str.ofString "codes" then some (.ref c) else rest z
theorem mapK_of {c : Addr} {m : Map} (h5 : m (Str.ofString "codes") = some (.ref c)) : m = mapK c m := by
  funext z
  unfold mapK
  by_cases e5 : z = Str.ofString "codes"
  · subst e5; exact h5.trans (if_pos rfl).symm
  rw [if_neg e5]
theorem news_swap {h₀ h : Heap} {L : Addr} {a b : Addr × Obj} {r : Led} (N : News h₀ L h (a :: b :: r)) : News h₀ L h (b :: a :: r) := fun p hp => N p (by
  rcases List.mem_cons.mp hp with e | hp
  · exact e ▸ .tail _ (.head _)
  rcases List.mem_cons.mp hp with e | hp
  · exact e ▸ .head _
  · exact .tail _ (.tail _ hp))
def LpPost (h₀ : Heap) (L c : Addr) (nx : Led) (s : Shared) (f : Flow) (s' : Shared) : Prop := f = .next ∧ ∃ h' tk' rm', s' = { s with heap := h', toks := tk' } ∧ Fr h₀ L h' (mapK c rm') ∧ News h₀ L h' nx
theorem chk_run {prog : Program} {w : World} {s : Shared} {p : Program} {loose : List PySem.Str} {mean : ExcName → Option Value} {mg mb : Map} {h₀ : Heap} {L : Addr}
    {oc doc pm cdv ct dV kV : Value} {od : Option Addr} {osl : Array (Option Value)} {name qual : PySem.Str} {params : Arguments} {body : List Stmt} {scope : Scope} {an : Option Addr}
    (ho : (hd.heap_39 w.params).lookup 52 = some ⟨oc, od, .func (fnOf name qual params body scope dV kV doc pm an cdv ct), osl⟩)
    {c H Wa : Addr} {rm : Map} {nx : Led} {ws : List Value} {n : Nat} (X : (hd.heap_39 w.params).In h₀) (T : Top p loose mean mg mb h₀) (F : Fr h₀ L s.heap (mapW c H Wa rm))
    (N : News h₀ L s.heap nx) (hWa : (Wa, W.listOf ws.toArray n) ∈ nx) (hW : ∀ v ∈ ws, Wr nx v) :
    wpC (model prog w) (callerA.deeper (envOf qual scope L 52 cdv)) (exec (nth (forBody (nth body 4)) 3) (envOf qual scope L 52 cdv)) (LpPost h₀ L c nx s) noE s := by
  refine' cut_fn ho ?k (fun e => ?_)
  case k => k_is
  cases e
  unfold mapW at F
  k_with_none
  change wpC _ _ (exec (.For _ _ _ _ _) _) _ _ _
  refine wpC_For ?_
  k_fold
  k_steps
  rename Fr _ _ _ _ => F5
  rename News _ _ _ _ => N5
  refine' forC_list2 (l := Wa) (lo := W.listOf ws.toArray n) (vs := ws) (n := n) (fun i m nx' => nx' = nx ∧ ∃ rm', m = mapK c rm') ?hh ?F ?N ?H ?hc ?hd ?h0 ?turn ?done
  case hh => exact rfl
  case F => exact F5
  case N => exact N5
  case H => exact Or.inr ⟨hWa, fun i m nx' e => e.1 ▸ hWa⟩
  case hc => exact rfl
  case hd => exact rfl
  case h0 => exact ⟨rfl, _, mapK_of rfl⟩
  case done =>
    rintro m' nx' h₂ tk₂ ⟨rfl, rm', rfl⟩ F₁ N₁
    exact ⟨rfl, h₂, tk₂, rm', rfl, F₁, N₁⟩
  case turn =>
    rintro i v m₁ nx' I oI h₂ tk₂ hv ⟨rfl, rm', rfl⟩ hId hoff F₁ N₁
    obtain ⟨Tt, l, ws', ns, t, wanted, rfl, hT, hl, hi, hb, hlen, hdt⟩ := hW v (List.mem_of_getElem? hv)
    have N₂ : News h₀ L h₂ ((Tt, tupObj [.ref l, .str wanted t]) :: (l, W.listOf ws'.toArray 0) :: (I, oI) :: nx') := fun q hq => by
      rcases List.mem_cons.mp hq with rfl | hq
      · exact N₁ _ (.tail _ hT)
      rcases List.mem_cons.mp hq with rfl | hq
      · exact N₁ _ (.tail _ hl)
      · exact N₁ q hq
    clear N₁ N5 F5
    unfold mapK at F₁
    k_steps
    rename Fr _ _ _ _ => F6
    rename News _ _ _ _ => N6
    have N7 := news_swap N6
    refine wpC_execs_cons (wpC_If (wpC_or (wpC_any ?_)))
    refine wpAny_mono (check1 (prog := prog) (rm := rm') ho X T F6 N7 hi hb hlen hdt) (fun b s₃ h₃ => ?_) fun _ _ x => x
    clear F6 N6 N7
    obtain ⟨rfl, h3, tk3, rfl, F8, N8⟩ := h₃
    change wpC _ _ (isTrue (.BoolOp .Or _ _) _ _) _ _ _
    refine wpC_or ?_
    refine wpC_mono (check2 (prog := prog) (rm := rm') ho X T F8 N8 hi hb hlen hdt) (fun b s₃ h₃ => ?_) fun _ _ x => x
    clear F8 N8
    obtain ⟨rfl, h3, tk3, rfl, F8, N8⟩ := h₃
    change wpC _ _ (isTrue (.BoolOp .Or _ _) _ _) _ _ _
    refine wpC_any (isTrue_or_nil ?_)
    change wpC _ _ (execs [] _) _ _ _
    refine wpC_any (wpAny_execs_nil ?_)
    change wpC _ _ (execs [] _) _ _ _
    refine wpC_any (wpAny_execs_nil ?_)
    exact end2 (nx := nx') F8 N8 (.tail _ (.tail _ (.head _))) (fun p hp => .tail _ (.tail _ (.tail _ hp))) hoff ⟨rfl, _, mapK_of rfl⟩
end Mine

namespace Mine
theorem off_T10 : True := by
  w_top off
  trivial
theorem s5_turn {prog : Program} {w : World} {s : Shared} {p : Program} {loose : List PySem.Str} {mean : ExcName → Option Value} {mg mb : Map} {h₀ : Heap} {L : Addr}
    {oc doc pm cdv ct dV kV : Value} {od : Option Addr} {osl : Array (Option Value)} {name qual : PySem.Str} {params : Arguments} {body : List Stmt} {scope : Scope} {an : Option Addr}
    (ho : (hd.heap_39 w.params).lookup 52 = some ⟨oc, od, .func (fnOf name qual params body scope dV kV doc pm an cdv ct), osl⟩)
    {c : Addr} {rm : Map} {rest : Led} {cv : List Value} {nc k : Nat} {t : Tok} {cs : List Int} (X : (hd.heap_39 w.params).In h₀) (T : Top p loose mean mg mb h₀) (F : Fr h₀ L s.heap (mapC c ((k + 1 : Nat) : Int) t rm))
    (N : News h₀ L s.heap ((c, W.listOf cv.toArray nc) :: rest)) (hi : IntsAre cv cs) (hlen : cs.length ≤ 6) (hk : k + 1 ≤ cs.length) (hC : Codes cs) :
    wpC (model prog w) (callerA.deeper (envOf qual scope L 52 cdv)) (execs (forBody (nth body 4)) (envOf qual scope L 52 cdv))
      (LpPost h₀ L c ((c, W.listOf cv.toArray nc) :: rest) s) noE s := by
  obtain ⟨c0, cr, ecs, h0, h1, hcr⟩ : ∃ c0 cr, cs.take (k + 1) = c0 :: cr ∧ 1 ≤ c0 ∧ c0 ≤ 127 ∧ ∀ n ∈ cr, Cd n := by
    cases cs with
    | nil => exact absurd hk (by simp)
    | cons a r =>
      refine ⟨a, r.take k, by rw [List.take_succ_cons], (hC.1 a (.head _)).1, hC.2 a rfl, fun n hn => hC.1 n (.tail _ (List.mem_of_mem_take hn))⟩
  have hl2 : (c0 :: cr).length ≤ 6 := by rw [← ecs, List.length_take]; omega
  have split : execs (forBody (nth body 4)) (envOf qual scope L 52 cdv) = execs (nth (forBody (nth body 4)) 0 :: nth (forBody (nth body 4)) 1 :: nth (forBody (nth body 4)) 2 :: nth (forBody (nth body 4)) 3 :: []) (envOf qual scope L 52 cdv) := by
    refine' cut_fn ho ?k (fun e => ?_)
    case k => k_is
    cases e
    rfl
  rw [split]
  refine wpC_execs_cons (wpC_any (wpAny_mono (head_run (prog := prog) ho X T F N hi hlen hk) (fun f s₁ p1 => ?_) fun _ _ x => x))
  obtain ⟨rfl, h₁, tk₁, H, hs, rm₁, rfl, F₁, N₁, hi₁⟩ := p1
  rw [ecs] at hi₁
  refine wpC_execs_cons (wpC_any (wpAny_mono (writ_run (prog := prog) ho X T F₁ N₁ hi₁ hl2 h0 h1 hcr) (fun f s₂ p2 => ?_) fun _ _ x => x))
  obtain ⟨rfl, h₂, tk₂, Wa, rm₂, ext, v1, v2, rfl, F₂, N₂, hWH, hWr, hpl, w1, w2⟩ := p2
  refine wpC_execs_cons (wpC_any (wpAny_mono (width_run (prog := prog) ho X T F₂ N₂ hWH hWr hi₁ hl2 h0 h1 hcr (Nat.le_refl 2)) (fun f s₃ p3 => ?_) fun _ _ x => x))
  obtain ⟨rfl, h₃, tk₃, ext2, rm₃, vs, n', rfl, F₃, N₃, hx2, hw, hl8⟩ := p3
  refine wpC_execs_cons (wpC_mono (chk_run (prog := prog) ho X T F₃ N₃ (.head _) (fun v hv => ?_)) (fun f s₄ p4 => ?_) fun _ _ x => x)
  · rcases List.mem_append.mp hv with hv | hv
    · have hm : ∀ q ∈ ext, q ∈ (Wa, W.listOf ([v1, v2] ++ vs).toArray n') :: (H, W.listOf hs.toArray 0) :: (ext2 ++ (ext ++ (c, W.listOf cv.toArray nc) :: rest)) :=
        fun q hq => .tail _ (.tail _ (List.mem_append_right _ (List.mem_append_left _ hq)))
      simp only [List.mem_cons, List.not_mem_nil, or_false] at hv
      rcases hv with rfl | rfl
      · exact w1.mono hm
      · exact w2.mono hm
    · exact (hw v hv).mono fun q hq => .tail _ (.tail _ (List.mem_append_left _ hq))
  · obtain ⟨rfl, h₄, tk₄, rm₄, rfl, F₄, N₄⟩ := p4
    refine wpC_any (wpAny_execs_nil ?_)
    exact ⟨rfl, h₄, tk₄, rm₄, rfl, F₄, fun q hq => N₄ q (.tail _ (.tail _ (List.mem_append_right _ (List.mem_append_right _ hq))))⟩
theorem s5_run {prog : Program} {w : World} {s : Shared} {p : Program} {loose : List PySem.Str} {mean : ExcName → Option Value} {mg mb : Map} {h₀ : Heap} {L : Addr}
    {oc doc pm cdv ct dV kV : Value} {od : Option Addr} {osl : Array (Option Value)} {name qual : PySem.Str} {params : Arguments} {body : List Stmt} {scope : Scope} {an : Option Addr}
    (ho : (hd.heap_39 w.params).lookup 52 = some ⟨oc, od, .func (fnOf name qual params body scope dV kV doc pm an cdv ct), osl⟩)
    {c : Addr} {rm : Map} {cv : List Value} {nc : Nat} {cs : List Int} (X : (hd.heap_39 w.params).In h₀) (T : Top p loose mean mg mb h₀) (F : Fr h₀ L s.heap (mapK c rm))
    (N : News h₀ L s.heap [(c, W.listOf cv.toArray nc)]) (hi : IntsAre cv cs) (hlen : cs.length ≤ 6) (hC : Codes cs) :
    wpC (model prog w) (callerA.deeper (envOf qual scope L 52 cdv)) (exec (nth body 4) (envOf qual scope L 52 cdv)) (LpPost h₀ L c [(c, W.listOf cv.toArray nc)] s) noE s := by
  refine' cut_fn ho ?k (fun e => ?_)
  case k => k_is
  cases e
  have hlen0 := hi.length
  unfold mapK at F
  k_with_none
  change wpC _ _ (exec (.For _ _ _ _ _) _) _ _ _
  refine wpC_For ?_
  k_fold
  k_steps
  rename IsRange _ _ _ _ _ _ _ _ => rgX
  rename Fr _ _ _ _ => F5
  rename News _ _ _ _ => N5
  refine' forC_range2 (n := cs.length) (fun i m nx' => nx' = [(c, W.listOf cv.toArray nc)] ∧ ∃ rm', m = mapK c rm') ?hh rgX ?hsm ?hn ?F ?N ?h0 ?hx ?hp ?turn ?done
  case hh => exact rfl
  case hsm => exact small_one (by omega) (by omega) (by omega) (by omega)
  case hn => rw [rangeSize_up]; omega
  case F => exact F5
  case N => exact N5
  case h0 => exact ⟨rfl, rm, rfl⟩
  case hx => exact rfl
  case hp => exact rfl
  case done =>
    rintro m' nx' h₂ tk₂ ⟨rfl, rm', rfl⟩ F₁ N₁
    exact ⟨rfl, h₂, tk₂, rm', rfl, F₁, N₁⟩
  case turn =>
    rintro i t m₁ nx' I oI h₂ tk₂ hin ⟨rfl, rm', rfl⟩ hId hoff F₁ N₁
    have e1 : (1 : Int) + (i : Int) = ((i + 1 : Nat) : Int) := by omega
    rw [e1] at F₁
    have F₂ : Fr h₀ L h₂ (mapC c ((i + 1 : Nat) : Int) t rm') := F₁
    have N₂ : News h₀ L h₂ ((c, W.listOf cv.toArray nc) :: [(I, oI)]) := news_swap N₁
    refine wpC_mono (s5_turn (prog := prog) (s := { s with heap := h₂, toks := tk₂ }) ho X T F₂ N₂ hi hlen hin hC) (fun f s₄ p4 => ?_) fun _ _ x => x
    obtain ⟨rfl, h₄, tk₄, rm₄, rfl, F₄, N₄⟩ := p4
    exact end2 (nx := [(c, W.listOf cv.toArray nc)]) F₄ N₄ (.tail _ (.head _)) (fun p hp => (List.mem_singleton.mp hp) ▸ .head _) hoff ⟨rfl, _, rfl⟩
end Mine

namespace Mine
theorem off_T11 : True := by
  w_top off
  trivial
def scrM (l : Addr) : Map := fun z => if z = Str.ofString "script" then some (.ref l) else none
theorem mapS2_row {l lr : Addr} : (fun z => if z = Str.ofString "row" then some (Value.ref lr) else scrM l z) = mapS2 l lr none none := by
  funext z
  unfold mapS2 scrM
  by_cases h1 : z = Str.ofString "row"
  · simp only [if_pos h1]
  simp only [if_neg h1]
  by_cases h2 : z = Str.ofString "first"
  · subst h2; rfl
  simp only [if_neg h2]
  by_cases h3 : z = Str.ofString "stop"
  · subst h3; rfl
  simp only [if_neg h3]
def RowPost (h₀ : Heap) (L l : Addr) (s : Shared) (f : Flow) (s' : Shared) : Prop :=
  f = .next ∧ ∃ (h' : Heap) (tk' : Nat) (lr : Addr) (ys : List Value) (rs : List Int), s' = { s with heap := h', toks := tk' } ∧ Fr h₀ L h' (mapS2 l lr none none) ∧ News h₀ L h' [(lr, W.listOf ys.toArray ys.length)] ∧ IntsAre ys rs ∧ Byt rs ∧ rs.length ≤ 12
theorem news_first {h₀ h : Heap} {L : Addr} {a : Addr × Obj} {r : Led} (N : News h₀ L h (a :: r)) : News h₀ L h [a] := fun p hp => N p ((List.mem_singleton.mp hp) ▸ .head _)
theorem row_end {h₀ h' : Heap} {L l lr : Addr} {s : Shared} {tk : Nat} {ys : List Value} {rs : List Int} (F : Fr h₀ L h' (fun z => if z = Str.ofString "row" then some (Value.ref lr) else scrM l z)) (N : News h₀ L h' [(lr, W.listOf ys.toArray ys.length)]) (hi : IntsAre ys rs) (hb : Byt rs) (hz : rs.length ≤ 12) :
    RowPost h₀ L l s .next { s with heap := h', toks := tk } :=
  ⟨rfl, h', tk, lr, ys, rs, rfl, by rw [← mapS2_row]; exact F, N, hi, hb, hz⟩
theorem byt_menu {ns : List Int} : Byt ((List.take 12 ns).map (fun k' =>
        if k'.fmod 8 = 0 then 0
        else
          if k'.fmod 8 = 1 then 1
          else
            if k'.fmod 8 = 2 then 91
            else
              if k'.fmod 8 = 3 then 254
              else
                if k'.fmod 8 = 4 then 255
                else if k'.fmod 8 = 5 then 239 else if k'.fmod 8 = 6 then 187 else if k'.fmod 8 = 7 then 191 else k')) := by
  intro n hn
  obtain ⟨k, _, rfl⟩ := List.mem_map.mp hn
  have h1 := Int.fmod_nonneg_of_pos k (show (0:Int) < 8 by decide)
  have h2 := Int.fmod_lt_of_pos k (show (0:Int) < 8 by decide)
  repeat' split
  all_goals omega
theorem s1_run {prog : Program} {w : World} {s : Shared} {p : Program} {loose : List PySem.Str} {mean : ExcName → Option Value} {mg mb : Map} {h₀ : Heap} {L : Addr}
    {oc doc pm cdv ct dV kV : Value} {od : Option Addr} {osl : Array (Option Value)} {name qual : PySem.Str} {params : Arguments} {body : List Stmt} {scope : Scope} {an : Option Addr}
    (ho : (hd.heap_39 w.params).lookup 52 = some ⟨oc, od, .func (fnOf name qual params body scope dV kV doc pm an cdv ct), osl⟩)
    {l : Addr} {vs : List Value} {ns : List Int} (X : (hd.heap_39 w.params).In h₀) (T : Top p loose mean mg mb h₀) (F : Fr h₀ L s.heap (scrM l)) (N : News h₀ L s.heap [])
    (hl : h₀.IsList l vs.toArray) (hi : IntsAre vs ns) (hlen : ns.length ≤ 63) :
    wpAny (model prog w) (callerA.deeper (envOf qual scope L 52 cdv)) (exec (nth body 0) (envOf qual scope L 52 cdv)) (RowPost h₀ L l s) noE s := by
  refine' cut_fn ho ?k (fun e => ?_)
  case k => k_is
  cases e
  clear ho
  have hlen0 := hi.length
  unfold scrM at F
  k_with_none
  change wpAny _ _ (exec (.Assign _ _ _) _) _ _ _
  k_fold
  k_steps
  rename Fr _ _ _ _ => F5
  rename News _ _ _ _ => N5
  rename IntsAre _ (List.map _ (List.take 12 ns)) => hI
  refine row_end F5 (news_first N5) hI byt_menu ?_
  rw [List.length_map, List.length_take]
  omega
theorem pureC_call {prog : Program} {w : World} {A : Around} {K : Frag} {R : Result → Shared → Prop} {s : Shared} {p : Program} {loose : List PySem.Str} {mean : ExcName → Option Value} {mg mb : Map}
    {name qual : PySem.Str} {params : Arguments} {body : List Stmt} {scope : Scope} {dV kV doc pm cdv ct oc : Value} {an od : Option Addr} {osl : Array (Option Value)} {f : Addr} {args : Args} (binds : List (PySem.Str × Value)) (m : Map)
    (X : K.In s.heap) (T : Top p loose mean mg mb s.heap)
    (ho : K.lookup f = some ⟨oc, od, .func (fnOf name qual params body scope dV kV doc pm an cdv ct), osl⟩) (hcd : codeIn K cdv qual = true) (hroom : A.depth < recursionLimit)
    (hbind : BindsTo s (fnOf name qual params body scope dV kV doc pm an cdv ct) args binds) (hloc : ∀ y ∈ binds, scope.names.lookup y.1 = some .local)
    (hm : ∀ y, binds.reverse.lookup y = m y)
    (h : ∀ h₁, Fr s.heap s.heap.objs.size h₁ m → News s.heap s.heap.objs.size h₁ [] →
      wpC (model prog w) (A.deeper (envOf qual scope s.heap.objs.size f cdv)) (execs body (envOf qual scope s.heap.objs.size f cdv))
        (fun fl s' => R (.ok (.ret (match fl with | .ret v => v | _ => .none))) s') noE { s with heap := h₁, toks := s.toks + binds.length })
    (hco : scope.isCoroutine = false) (hgen : scope.isGenerator = false) (hk : scope.kind = .function)
    (hcell : ∀ x ∈ scope.names, x.2 ≠ .cell) : codeC (model prog w) A (.call (.ref f) args) R s := by
  refine codeC_call_function hroom (X _ _ ho) rfl hco hgen rfl (codeRec_of X hcd) (hbind _ _ _ _ ?_)
  refine wpAny_newFunctionEnv hcell hloc (fun h₀ hns₀ hsb₀ => ⟨T.nolimit.fresh _ hsb₀, codeC_func ?_⟩) hk
  have e : (fun y => binds.reverse.lookup y) = m := funext hm
  have hns : h₀.Ns s.heap.objs.size m := e ▸ hns₀
  exact h h₀ ⟨hns, fun b o e => hsb₀.extBut b o (Nat.ne_of_lt (Heap.lt_size e)) (Heap.get?_push_of_some _ e), Nat.le_refl _⟩ News.nil

theorem s6_run {prog : Program} {w : World} {s : Shared} {h₀ : Heap} {L : Addr} {m : Map} {news : Led}
    {oc doc pm cdv ct dV kV : Value} {od : Option Addr} {osl : Array (Option Value)} {name qual : PySem.Str} {params : Arguments} {body : List Stmt} {scope : Scope} {an : Option Addr}
    (ho : (hd.heap_39 w.params).lookup 52 = some ⟨oc, od, .func (fnOf name qual params body scope dV kV doc pm an cdv ct), osl⟩) (F : Fr h₀ L s.heap m) (N : News h₀ L s.heap news) :
    wpAny (model prog w) (callerA.deeper (envOf qual scope L 52 cdv)) (exec (nth body 5) (envOf qual scope L 52 cdv)) (fun f s' => f = .ret (.bool true) ∧ ∃ tk', s' = { s with toks := tk' }) noE s := by
  refine' cut_fn ho ?k (fun e => ?_)
  case k => k_is
  cases e
  clear ho
  k_with_none
  change wpAny _ _ (exec (.Return _ _) _) _ _ _
  k_fold
  k_steps
theorem body_run {prog : Program} {w : World} {s : Shared} {p : Program} {loose : List PySem.Str} {mean : ExcName → Option Value} {mg mb : Map} {h₀ : Heap} {L : Addr}
    {oc doc pm cdv ct dV kV : Value} {od : Option Addr} {osl : Array (Option Value)} {name qual : PySem.Str} {params : Arguments} {body : List Stmt} {scope : Scope} {an : Option Addr}
    (ho : (hd.heap_39 w.params).lookup 52 = some ⟨oc, od, .func (fnOf name qual params body scope dV kV doc pm an cdv ct), osl⟩)
    {l : Addr} {vs : List Value} {ns : List Int} (X : (hd.heap_39 w.params).In h₀) (T : Top p loose mean mg mb h₀) (F : Fr h₀ L s.heap (scrM l)) (N : News h₀ L s.heap [])
    (hl : h₀.IsList l vs.toArray) (hi : IntsAre vs ns) (hlen : ns.length ≤ 63) :
    wpC (model prog w) (callerA.deeper (envOf qual scope L 52 cdv)) (execs body (envOf qual scope L 52 cdv)) (fun f s' => f = .ret (.bool true) ∧ ∃ h' tk', s' = { s with heap := h', toks := tk' } ∧ h₀.StaysIn h') noE s := by
  have split : execs body (envOf qual scope L 52 cdv) = execs (nth body 0 :: nth body 1 :: nth body 2 :: nth body 3 :: nth body 4 :: nth body 5 :: []) (envOf qual scope L 52 cdv) := by
    refine' cut_fn ho ?k (fun e => ?_)
    case k => k_is
    cases e
    rfl
  rw [split]
  refine wpC_execs_cons (wpC_any (wpAny_mono (s1_run (prog := prog) ho X T F N hl hi hlen) (fun f s₁ p1 => ?_) fun _ _ x => x))
  obtain ⟨rfl, h₁, tk₁, lr, ys, rs, rfl, F₁, N₁, hi₁, hb₁, hz₁⟩ := p1
  refine wpC_execs_cons (wpC_any (wpAny_mono (s2_run (prog := prog) ho X T F₁ N₁ hi₁ hb₁ hz₁) (fun f s₂ p2 => ?_) fun _ _ x => x))
  obtain ⟨rfl, h₂, tk₂, u1, u2, rfl, F₂, N₂⟩ := p2
  refine wpC_execs_cons (wpC_any (wpAny_mono (s3_run (prog := prog) ho X T F₂ N₂) (fun f s₃ p3 => ?_) fun _ _ x => x))
  obtain ⟨rfl, c, h₃, tk₃, rfl, F₃, N₃⟩ := p3
  rw [mapS4_new (l := l) rfl] at F₃
  refine wpC_execs_cons (wpC_any (wpAny_mono (s4_run (prog := prog) ho X T F₃ (fun q hq => N₃ q ((List.mem_singleton.mp hq) ▸ .head _)) hl hi hlen) (fun f s₄ p4 => ?_) fun _ _ x => x))
  obtain ⟨rfl, n, h₄, tk₄, m₄, nx₄, rfl, hn1, hn6, F₄, N₄, ws, cs, rest, rfl, rfl, hiC, hlC, hC⟩ := p4
  rw [mapK_of (c := c) (m := mapS4 l c rest) rfl] at F₄
  refine wpC_execs_cons (wpC_mono (s5_run (prog := prog) ho X T F₄ N₄ hiC (hlC ▸ hn6) hC) (fun f s₅ p5 => ?_) fun _ _ x => x)
  obtain ⟨rfl, h₅, tk₅, rm₅, rfl, F₅, N₅⟩ := p5
  refine wpC_execs_cons (wpC_any (wpAny_mono (s6_run (prog := prog) ho F₅ N₅) (fun f s₆ p6 => ?_) fun _ _ x => x))
  obtain ⟨rfl, tk₆, rfl⟩ := p6
  exact ⟨rfl, h₅, tk₆, rfl, F₅.keep⟩
end Mine

namespace Mine
theorem off_H1 : True := by
  w_top off
  trivial
noncomputable def lv : List (PySem.Str × WData) := [(Str.ofString "BOM_LE", WData.bytes [255, 254]), (Str.ofString "BOM_UTF16_LE", WData.bytes [255, 254]), (Str.ofString "BOM_BE", WData.bytes [254, 255]), (Str.ofString "BOM_UTF16_BE", WData.bytes [254, 255])]
noncomputable def loose : List PySem.Str := [Str.ofString "BOM_LE", Str.ofString "BOM_UTF16_LE", Str.ofString "BOM_BE", Str.ofString "BOM_UTF16_BE"]
noncomputable def hook : Hook := kHook hd.heap_39 [2, 3, 6, 15, 17, 18, 20, 21, 22, 24, 25, 27, 28, 29, 31, 32, 34, 35, 36, 38, 39, 41, 42, 43, 46, 47, 48, 51, 52] (fun _ => by kernel_rfl)
noncomputable abbrev rowO : OpenRow := PySem.Challenge.rw_sc0117_01.row
theorem left : LeftO rowO.toRowW.prog hd.view_39 loose (fun s => xlAt hd.view_39 lv s && recOk (RowW.records rowO.toRowW) s) (Hook.obs hook) (Hook.val hook) 880 := fun w => by kernel_rfl
end Mine

namespace Mine
open Sem (wp)
theorem off_H2 : True := by
  w_top off
  trivial
def cleanL (l : List (Code × Pos)) : Bool := l.all fun x => !isDec x.1
theorem cleanL_iff {c : Code} {p : Pos} {l : List (Code × Pos)} (h : cleanL ((c, p) :: l) = true) : isDec c = false ∧ CleanB l := by
  simp only [cleanL, List.all_cons, Bool.and_eq_true, Bool.not_eq_true', List.all_eq_true] at h
  exact ⟨h.1, h.2⟩
def runG (f : Value) (vs : List Value) : Sem Value := stack >>= fun st => if cleanL st = true then call f vs else pure (.bool true)
def treeG (t : Sem PySem.Fin) : Sem PySem.Fin := stack >>= fun st => if cleanL st = true then t else ret (.bool true)

theorem wp_stackBind {β : Type} {M : Model} {Γ : Ctx} {k : List (Code × Pos) → Sem β} {Q : β → Pos → Shared → Prop} {E : Value → Pos → Shared → Prop} {p : Pos} {s : Shared} : wp M Γ (stack >>= k) Q E p s ↔ wp M Γ (k ((Γ.code, p) :: Γ.below)) Q E p s := by
  rw [Sem.wp_bind']
  exact Iff.rfl

/-- the thread that looks at the stack first, then goes on as the true one -/
theorem calm_stub {t : Sem PySem.Fin} : (⟨treeG t, .builtin "claim.caller" {}, default, []⟩ : Thread).calm = true := by
  first | rfl | decide
theorem run_stub {prog : Program} {w : World} {t : Sem PySem.Fin} {s s' : Shared} {o : Outcome} {n : Nat} (hz : s.asleep)
    (h : schedN (denote table) prog w n (.single s ⟨treeG t, .builtin "claim.caller" {}, default, []⟩) = .halted o s') :
    ∃ n, schedN (denote table) prog w n (.single s ⟨t, .builtin "claim.caller" {}, default, []⟩) = .halted o s' := by
  cases n with
  | zero => cases h
  | succ n =>
    have hst : step (denote table) prog w s ⟨treeG t, .builtin "claim.caller" {}, default, []⟩ = .go s ⟨t, .builtin "claim.caller" {}, default, []⟩ := by
      obtain ⟨h1, h2, h3, h4, h5⟩ := s
      rfl
    have e := sstep_single (den := denote table) (prog := prog) (w := w) s ⟨treeG t, .builtin "claim.caller" {}, default, []⟩ calm_stub hz
    rw [hst] at e
    rcases e with e | e
    · simp only [schedN, e, Step.lift] at h
      exact ⟨n, h⟩
    · cases e

theorem callFrom_stub {c : ClaimW} {w : World} {free : Addr → Prop} {gens : Prop} {kept : Heap → Prop} {s : Shared} {tree : List Value → Sem PySem.Fin} (hz : s.asleep)
    (h : c.CallFrom (fun vs => ⟨treeG (tree vs), .builtin "claim.caller" {}, default, []⟩) w free gens kept s) : c.CallFrom (fun vs => ⟨tree vs, .builtin "claim.caller" {}, default, []⟩) w free gens kept s := by
  intro args hpre hlay ord hord
  obtain ⟨vs, s₁, hlaid, n, o, s', hrun, rest⟩ := h args hpre hlay ord hord
  have hal := layAllW_rest _ _ _ hlaid
  obtain ⟨n', hrun'⟩ := run_stub (Shared.asleep_of_life hal.2.2.2 hz) hrun
  exact ⟨vs, s₁, hlaid, n', o, s', hrun', rest⟩
theorem holds_stub {c : ClaimW} {defs keeps : List PySem.Str} {writes : Bool} {tree : List Value → Sem PySem.Fin}
    (h : c.HoldsOpenBy (fun vs => ⟨treeG (tree vs), .builtin "claim.caller" {}, default, []⟩) defs keeps writes) : c.HoldsOpenBy (fun vs => ⟨tree vs, .builtin "claim.caller" {}, default, []⟩) defs keeps writes := by
  obtain ⟨a, b, d⟩ := h
  refine ⟨a, b, fun w => ⟨(d w).1, fun s hs => ?_⟩⟩
  obtain ⟨s₀, hf, hg, s₁, hT, d1, d2, d3, hcall⟩ := (d w).2 s hs
  have hs' : AfterImport (opening c.prog) w s := hs
  have z0 : s₀.asleep := Shared.asleep_of_life (fence_lifeW hf) hs'.life
  exact ⟨s₀, hf, hg, s₁, hT, d1, d2, d3, callFrom_stub (Shared.asleep_of_life hT.2.1 z0) hcall⟩
end Mine

namespace Mine
open Sem (wp)
theorem off_H3 : True := by
  w_top off
  trivial
abbrev treeOf (name : PySem.Str) (vs : List Value) : Sem PySem.Fin := do
  match ← nsGet mainNs name with
  | some f => do ret (← PySem.call f vs)
  | none => unsupported "claim.caller:no-such-global"

theorem tree_go {prog : Program} {w : World} {name : PySem.Str} {vs : List Value} {s : Shared} {mg : PySem.Str → Option Value} {f : Value} {Q : PySem.Fin → Shared → Prop} {E : Value → Shared → Prop} (hg : s.heap.Ns mainGlobals mg) (hf : mg name = some f)
    (h : wpAny (model prog w) callerA (runG f vs) (fun v s' => Q (.done (.ret v)) s') E s) : wpAny (model prog w) callerA (treeG (treeOf name vs)) Q E s := by
  intro Γ p hΓ
  have h0 := h Γ p hΓ
  unfold runG at h0
  unfold treeG
  rw [wp_stackBind] at h0 ⊢
  by_cases hc : cleanL ((Γ.code, p) :: Γ.below) = true
  · rw [if_pos hc] at h0 ⊢
    unfold treeOf
    rw [Sem.wp_bind', Sem.wp_nsGet _ Γ _ p s (show s.heap.Ns mainNs mg from hg), hf]
    show wp _ Γ (PySem.call f vs >>= fun v => ret v) _ _ p s
    rw [Sem.wp_bind']
    exact Sem.wp_mono _ Γ _ (fun _ _ _ x => x) (fun _ _ _ x => x) p s h0
  · rw [if_neg hc] at h0 ⊢
    exact h0

abbrev WalkC (q : Program) (loose : List PySem.Str) (XP : (PySem.Str → Option Value) → Heap → Prop) (YP : World → Heap → Prop) (r : RowW) (d : DefRec) (kwd : List (PySem.Str × PySem.Expr)) : Prop :=
  ∀ (w : World) (s₀ s₁ : Shared) (mg mb : PySem.Str → Option Value), Ground q loose r.records XP w s₀ mg mb s₁.heap → YP w s₁.heap → ∀ (a : Addr) (o : Obj) (pm cd doc dV kV : Value), s₁.heap.get? a = some o →
    o.data = .func { docDef d.name d.params d.body d.scope pm cd doc with defaults := dV, kwdefaults := kV } → s₁.heap.CodeRec cd d.name → Dflts mg s₁.heap d.params kwd dV kV → mg d.name = some (.ref a) → s₁.gens = #[] →
    ∀ (args : List WData) (vals : List Value) (as : List Addr), r.claim.pre args = true → WData.layableAll args = true → ReadsAllW r.records (classAt s₀.heap) s₁.heap vals args as → WellAll w.params s₁.heap vals args → (∀ a ∈ as, (a == sysModules) = false) →
      codeC (model r.prog w) callerA (.call (.ref a) ⟨vals, []⟩) (GoodW r.claim (classAt s₀.heap) (ExcName.means s₀.heap) args s₁) s₁

theorem my_open {r : OpenRow} {q : Program} {loose : List PySem.Str} {Xt : Shared → Bool} {XP : (PySem.Str → Option Value) → Heap → Prop} {α : Type} {Yf : Shared → α} {Ya : World → α} {YP : World → Heap → Prop} {d : DefRec} {kwd : List (PySem.Str × PySem.Expr)} {N : Nat}
    (left : LeftO r.prog q loose Xt Yf Ya N) (hY : ∀ w s, Yf s = Ya w → YP w s.heap) (hYk : ∀ w h h', YP w h → (∀ b o, h.get? b = some o → h'.get? b = some o) → YP w h')
    (hX : ∀ s, Xt s = true → XP (s.heap.nsMap mainGlobals) s.heap) (hXk : ∀ mg h h', XP mg h → (∀ b o, h.get? b = some o → h'.get? b = some o) → XP mg h')
    (hdef : defOf q r.name = some (d, kwd)) (hp : r.prog.theDef r.name = some (d.params, d.body, d.scope)) (hk : kwWritten? d.params.kwonlyargs d.params.kw_defaults = some kwd) (hRf : ∀ s, Xt s = true → RecFacts r.records s.heap) (hwr : (!r.writes || r.records.isEmpty) = true)
    (k1 : r.wellSaid = true) (ok : (chainsOk q && opensWell r.prog && (frees r.toRowW && r.within.isEmpty)) = true) (hb : r.prog.bare) (hw : r.toRowW.promised)
    (hn : ∀ args cls, r.toRowW.claim.raises args cls = false) (ht : ∀ args, r.toRowW.claim.post args (.bool true) args = true)
    (walk : WalkC q loose XP YP r.toRowW d kwd) : r.Holds := by
  refine ⟨k1, hw, holds_stub (tree := treeOf r.name) (open_anyG (r := r.toRowW) (run := runG) (tree := fun vs => treeG (treeOf r.name vs)) left hY hYk hX hXk hRf hwr ok hb hw
    (fun vs w s mg f Q E hg hf h => tree_go hg hf h) (fun w s hg G n hn => ?_) fun w s₀ s₁ mg mb G Y args vs as hpre hlay L low => ?_)⟩
  · obtain rfl : n = r.name := by split at hn <;> simp_all
    exact pinned_of_view hg G hdef hp hk
  · obtain ⟨a, o, pm, cd, doc, dV, kV, h1, h2, h3, h4, h5⟩ := G.fn hdef
    have hc := walk w s₀ s₁ mg mb G Y a o pm cd doc dV kV h2 h3 h4 h5 (defOf_name hdef ▸ h1) L.gens args vs as hpre hlay L.reads L.well (L.low low)
    refine ⟨.ref a, h1, fun Γ p hΓ => ?_⟩
    unfold runG
    rw [wp_stackBind]
    by_cases hcl : cleanL ((Γ.code, p) :: Γ.below) = true
    · rw [if_pos hcl]
      obtain ⟨c1, c2⟩ := cleanL_iff hcl
      refine wpC_call (E := fun e s' => GoodWG r.toRowW.claim (classAt s₀.heap) (ExcName.means s₀.heap) args s₁ (.error e) s') (Q := fun v s' => GoodWG r.toRowW.claim (classAt s₀.heap) (ExcName.means s₀.heap) args s₁ (.ok (.ret v)) s') (codeC_mono hc fun res s' g => ?_) Γ p hΓ c1 c2
      have g' := g.toG
      rcases g.1 with ⟨v, _, _, rfl, _⟩ | ⟨e, _, _, rfl, _⟩ <;> exact g'
    · rw [if_neg hcl]
      have g : GoodW r.toRowW.claim (classAt s₀.heap) (ExcName.means s₀.heap) args s₁ (.ok (.ret (.bool true))) s₁ :=
        ⟨.inl ⟨.bool true, .bool true, [], rfl, hn args, .bool true, ht args, fun _ => ⟨.nil, fun _ ha => nomatch ha⟩⟩, fun _ _ e => e, rfl, L.gens⟩
      exact g.toG

theorem law_open (said : rowO.wellSaid = true) (hw : rowO.toRowW.promised) {d : DefRec} {kwd : List (PySem.Str × PySem.Expr)} (hdef : defOf hd.view_39 rowO.name = some (d, kwd)) (hp : rowO.prog.theDef rowO.name = some (d.params, d.body, d.scope))
    (hk : kwWritten? d.params.kwonlyargs d.params.kw_defaults = some kwd) (walk : WalkC hd.view_39 loose (XL hd.view_39 lv) (Hook.says hook) rowO.toRowW d kwd) : rowO.Holds := by
  refine my_open (q := hd.view_39) (loose := loose) (Xt := fun s => xlAt hd.view_39 lv s && recOk (RowW.records rowO.toRowW) s) (XP := XL hd.view_39 lv) (Yf := Hook.obs hook) (Ya := Hook.val hook) (YP := Hook.says hook) (N := 880) left (Hook.of hook) (Hook.keeps hook) (fun s e => xl_of s (Bool.and_eq_true_iff.mp e).1) XL.keeps hdef hp hk
    (fun s e => recFacts_of (Bool.and_eq_true_iff.mp e).2) (by rfl) said (by decide +kernel) ⟨rfl, rfl, rfl, rfl, rfl, by decide +kernel⟩ hw (fun _ _ => rfl) (fun _ => ?_) walk
  exact postW_of rfl (w_eq_bool (w_res rfl) w_lit) rfl
end Mine

namespace Mine
theorem off_Z1 : True := by
  w_top off
  trivial
theorem law_call {prog : Program} {w : World} {R : Result → Shared → Prop} {s : Shared} {p : Program} {loose : List PySem.Str} {mean : ExcName → Option Value} {mg mb : Map}
    {l : Addr} {vs : List Value} {ns : List Int}
    (X : (hd.heap_39 w.params).In s.heap) (T : Top p loose mean mg mb s.heap) (hl : s.heap.IsList l vs.toArray) (hi : IntsAre vs ns) (hlen : ns.length ≤ 63)
    (h : ∀ h' tk', s.heap.StaysIn h' → R (.ok (.ret (.bool true))) { s with heap := h', toks := tk' }) :
    codeC (model prog w) callerA (.call (.ref 52) ⟨[.ref l], []⟩) R s := by
  refine' pureC_call (K := hd.heap_39 w.params) [(Str.ofString "script", .ref l)] (scrM l) X T ?k6 ?k7 ?k8 ?k9 ?kB ?km ?_ ?c2 ?c3 ?c4 ?c5
  case k6 => k_is
  case k7 => k_is
  case k8 => k_room
  case k9 => exact BindsTo.of_eq rfl
  case kB => exact locs rfl
  case km => intro y; exact look1 _ _ _
  case c2 => exact rfl
  case c3 => exact rfl
  case c4 => exact rfl
  case c5 => decide
  intro h₁ F N
  refine' wpC_mono (body_run (prog := prog) (w := w) (h₀ := s.heap) (L := s.heap.objs.size) (l := l) ?ho X T F N hl hi hlen) (fun f s' hp => ?_) (fun _ _ x => x)
  case ho => k_is
  obtain ⟨rfl, h', tk', rfl, k⟩ := hp
  exact h h' tk' k
theorem final : PySem.Challenge.rw_sc0117_01.Holds := by
  w_on
  o_law
  refine law_open (by assumption) (show PySem.Challenge.rw_sc0117_01.row.toRowW.promised from by w_witness2) (d := _) (kwd := _) (by rfl) (by rfl) (by rfl) ?walk
  intro w s0 s1 mg mb G Y fa o pm cd doc dV kV ho hd' hcd hD hmg hg args vals as hpre hlay hrd hwl hlo
  have KX := kIn_of Y
  refine Ground.open G ?_
  intro T B D TE TW
  clear hd' hcd hD ho
  have e52 : mg (Str.ofString "law") = some (.ref 52) := mg_of KX T.g (by k_is)
  have efa : some (Value.ref fa) = some (.ref 52) := hmg.symm.trans e52
  obtain rfl : fa = 52 := by injection efa with efa; injection efa
  clear hmg
  wrow_args hpre hlay hrd hwl hlo
  rename IntsAre _ _ => hI
  rename Heap.IsList _ _ _ => hL
  rename ¬ _ => hc
  refine law_call KX T hL hI (by omega) (fun h' tk' k => ?_)
  exact ⟨.inl ⟨.bool true, .bool true, [], rfl, (fun _ => rfl), .bool true, postW_of rfl (w_eq_bool (w_res rfl) w_lit) rfl, fun _ => ⟨.nil, fun _ ha => nomatch ha⟩⟩, k, rfl, hg⟩
end Mine

theorem PySem.Challenge.cw_sc0117_01_holds : PySem.Challenge.rw_sc0117_01.Holds :=
  Mine.final
