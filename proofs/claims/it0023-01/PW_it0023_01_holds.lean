import PyProof.Rows.All
import Wide.All
import OpenK.AllK
import Wide.FinOn
import PySem.Challenge.RW_it0023_01
set_option Elab.async false

section
open PySem PySem.W PyProof.Rows
set_option Elab.async false
set_option maxRecDepth 100000
set_option maxHeartbeats 8000000
namespace Mine
open_top hd for PySem.Challenge.rw_it0023_01
end Mine
end

section
open PySem PySem.W PySem.Calls PyProof.Rows
set_option Elab.async false
set_option maxRecDepth 100000
set_option maxHeartbeats 4000000
namespace Mine
section
variable {prog : Program} {w : World} {M : Model} {A : Around} {E : Value → Shared → Prop} {s : Shared}

/-- int.to_bytes(k, 'big') of any written-or-not length -/
theorem toBig {x : Int} {k : Nat} {t u v : Tok} {Q : Value → Shared → Prop} (hk : k ≤ 1000) (h0 : 0 ≤ x) (h1 : x < (256 : Int) ^ k)
    (h : ∀ (b : Array UInt8) t' k', KBw.bInts b = (KTBy.little k x).reverse → Q (.bytes b t') { s with toks := k' }) :
    wpAny (model prog w) A (call (.builtin "int.to_bytes") [.int x t, .int (k : Int) u, .str (PySem.Str.ofString "big") v]) Q E s := by
  have hb := KTBy.bits_le (k := k) rfl h0 h1
  refine wpAny_call_entry KTBy.slot (typeIs_int s x t) KTBy.entry ?_ (KTBy.args _ _ _)
  show wpAny _ _ (Builtin.Int.intOfSelf (.int x t) >>= fun y => _) _ _ s
  refine wpAny_bind (wpAny_of_eq (a := x) rfl ?_)
  show wpAny _ _ (Builtin.Int.intBindNamed "to_bytes" ["length", "byteorder", "signed"] 0 2 [.int (k : Int) u, .str (PySem.Str.ofString "big") v] [] >>= fun l => _) _ _ s
  refine wpAny_bind (wpAny_of_eq (a := [some (.int (k : Int) u), some (.str (PySem.Str.ofString "big") v), none]) (by kernel_rfl) ?_)
  show wpAny _ _ (Builtin.Int.intIndex "int.to_bytes" (.int (k : Int) u) >>= fun n => _) _ _ s
  refine wpAny_bind (wpAny_of_eq (a := (k : Int)) rfl ?_)
  have d1 : (decide ((k : Int) < -(2 ^ 63 : Int)) || decide ((k : Int) ≥ 2 ^ 63)) = false := by
    rw [Bool.or_eq_false_iff, decide_eq_false_iff_not, decide_eq_false_iff_not]; omega
  refine KTBy.if_not d1 ?_
  refine wpAny_bind (wpAny_of_eq (a := PySem.Str.ofString "big") (by kernel_rfl) ?_)
  refine wpAny_bind (wpAny_of_eq (a := false) rfl ?_)
  refine wpAny_bind (wpAny_of_eq (a := false) (by kernel_rfl) ?_)
  have d2 : decide ((k : Int) < 0) = false := by rw [decide_eq_false_iff_not]; omega
  have d3 : decide ((k : Int) > 2 ^ 63 - 1 - 33) = false := by rw [decide_eq_false_iff_not]; omega
  have d4 : decide ((k : Int) > (sizeLine : Int)) = false := by rw [decide_eq_false_iff_not, sizeLine_eq]; omega
  have d5 : (decide (x < 0) && !false) = false := by rw [Bool.and_eq_false_iff]; left; rw [decide_eq_false_iff_not]; omega
  have d6 : decide ((Builtin.Int.intBits x : Int) > 8 * (k : Int)) = false := by rw [decide_eq_false_iff_not]; omega
  refine wpAny_ite_false d2 ?_
  refine wpAny_ite_false d3 ?_
  refine wpAny_ite_false d4 ?_
  refine KTBy.if_not d5 ?_
  refine KTBy.if_not (by show (_ && decide ((Builtin.Int.intBits x : Int) > 8 * (k : Int))) = false; rw [d6, Bool.and_false]) ?_
  have hz : (List.reverse (KTBy.low x (Int.toNat (k : Int)))).length ≤ sizeLine := by
    rw [List.length_reverse, KTBy.low_length, Int.toNat_natCast, sizeLine_eq]; omega
  refine wpAny_bind (wpAny_mkBytes (wpAny_pure ⟨_, rfl, h _ _ _ ?_⟩) hz)
  show (List.map (fun c : UInt8 => ((c.toNat : Nat) : Int)) (List.reverse (KTBy.low x (Int.toNat (k : Int))))) = _
  rw [Int.toNat_natCast, List.map_reverse, KTBy.low_ints h0 h1, ← KTBy.little_eq]

theorem grow {n k : Nat} {Q : Value → Shared → Prop} (hk : k ≤ 1000) (hn : n < 256 ^ k) (h : Q (.int (n : Int) s.toks) { s with toks := s.toks + 1 }) : wpAny M A (mkIntGrown (n : Int)) Q E s := by
  unfold mkIntGrown
  have hl : ¬ ((n : Int).natAbs.log2 ≥ bitsLine) := by
    rw [Int.natAbs_natCast]
    have hb : bitsLine = 134217728 := by first | rfl | decide
    have e2 : (256 : Nat) = 2 ^ 8 := by decide
    rw [e2, ← Nat.pow_mul] at hn
    by_cases hz : n = 0
    · subst hz; rw [hb]; decide
    · have h1 := (Nat.log2_lt hz).mpr hn
      omega
  rw [if_neg hl]
  exact wpAny_mkInt h

theorem treeBig {b : Array UInt8} {t u : Tok} {P : Fin → Shared → Prop} (hl : b.size ≤ 1000) (h : P (.done (.ret (.int (KFB.value (KBw.bInts b)) s.toks))) { s with toks := s.toks + 1 }) :
    wpAny M A (Builtin.«int.from_bytes» ⟨[.type "int", .bytes b t, .str (PySem.Str.ofString "big") u], []⟩) P E s := by
  have hv : ((b.toList.foldl (fun (acc : Nat) (b : UInt8) => acc * 256 + b.toNat) 0 : Nat) : Int) = KFB.value (KBw.bInts b) := KFB.fold_cast b.toList 0
  have hn := KFB.fold_lt b.toList 0
  rw [Nat.zero_add, Nat.one_mul, Array.length_toList] at hn
  unfold Builtin.«int.from_bytes»
  refine wpAny_bind (wpAny_of_eq (a := true) KFB.type_int ?_)
  refine KFB.if_not rfl ?_
  refine wpAny_bind (wpAny_of_eq (a := true) F.conv_sub_int ?_)
  refine KFB.if_not rfl ?_
  refine wpAny_bind (wpAny_of_eq (a := [some (.bytes b t), some (.str (PySem.Str.ofString "big") u), none]) (by kernel_rfl) ?_)
  refine wpAny_bind (wpAny_of_eq (a := PySem.Str.ofString "big") (by kernel_rfl) ?_)
  refine wpAny_bind (wpAny_of_eq (a := false) rfl ?_)
  refine wpAny_bind (wpAny_of_eq (a := false) (by kernel_rfl) ?_)
  refine wpAny_bind (wpAny_of_eq (a := b) rfl ?_)
  show wpAny _ _ (mkIntGrown (b.toList.foldl (fun (acc : Int) (b : UInt8) => acc * 256 + (b.toNat : Int)) ((0 : Nat) : Int)) >>= fun v => _) _ _ _
  rw [KFB.foldI_eq]
  refine wpAny_bind (grow hl hn ?_)
  rw [hv]
  refine KFB.if_so (by decide +kernel) ?_
  exact wpAny_bind (wpAny_pure (wpAny_pure h))

theorem callBig {x : Addr} {h₀ : Heap} {L : Addr} {news : List (Addr × Obj)} {b : Array UInt8} {t u : Tok} {Q : Value → Shared → Prop} (N : News h₀ L s.heap news) (hm : (x, KFB.bound) ∈ news) (hl : (KBw.bInts b).length ≤ 1000)
    (h : ∀ t' k, Q (.int (KFB.value (KBw.bInts b)) t') { s with toks := k }) : wpAny (model prog w) A (call (.ref x) [.bytes b t, .str (PySem.Str.ofString "big") u]) Q E s :=
  KFB.call_of (KFB.at_of N hm) (fun z => treeBig (by rw [← KBw.ints_length]; exact hl) z) (h _ _)
end
end Mine
end

section
open PySem PySem.W PyProof.Rows
set_option Elab.async false
namespace Mine
def sz (x : Int) : Nat := (Builtin.Int.intBits x + 7) / 8
def form (x : Int) : List Int := (KTBy.little (sz x) x).reverse
theorem sz_eq (x : Int) : ((Builtin.Int.intBits x : Int) + 7).fdiv 8 = (sz x : Int) := by
  rw [Int.fdiv_eq_ediv_of_nonneg _ (by decide)]
  unfold sz
  omega
theorem lt_pow_iff {x : Int} (h0 : 0 ≤ x) (k : Nat) : x < (256 : Int) ^ k ↔ sz x ≤ k := by
  have e2 : (256 : Nat) = 2 ^ 8 := by decide
  have h : x < (256 : Int) ^ k ↔ x.natAbs < 2 ^ (8 * k) := by
    rw [KTBy.p256, Nat.pow_mul, ← e2]
    omega
  rw [h, ← intBits_le_iff]
  unfold sz
  omega
theorem lt_sz {x : Int} (h0 : 0 ≤ x) : x < (256 : Int) ^ sz x := (lt_pow_iff h0 _).mpr (Nat.le_refl _)
theorem sz_pos {x : Int} (h0 : 0 < x) : 0 < sz x := by
  have h := lt_sz (x := x) (by omega)
  rcases Nat.eq_zero_or_pos (sz x) with e | e
  · rw [e] at h
    simp at h
    omega
  · exact e
theorem sz_zero : sz 0 = 0 := by decide
theorem form_zero : form 0 = [] := by unfold form; rw [sz_zero]; rfl
theorem form_length (x : Int) : (form x).length = sz x := by unfold form; rw [List.length_reverse, KTBy.little_length]
end Mine
end

section
open PySem PySem.W PyProof.Rows
set_option Elab.async false
set_option maxRecDepth 100000
set_option maxHeartbeats 8000000
set_option pp.deepTerms false
set_option pp.deepTerms.threshold 8
set_option pp.proofs.threshold 0
namespace Mine

theorem itb {w : World} {mean : ExcName → Option Value} {mg mb : Str → Option Value} (dp un : Nat) (gd : Option (List Code)) (cn : Str) (cs : Scope) (a : Addr) (ccd : Value) (cl : List (Str × Addr)) (outer : List Env) (A₀ : Around) (base h₀ : Heap) (L : Addr) (m : Str → Option Value) (news : List (Addr × Obj)) (s : Shared) (Q E : Value → Shared → Prop)
    (x : Int) (t : Tok)
    (B : Below A₀ base outer h₀) (F : Fr h₀ L s.heap m) (X : (hd.heap_39 w.params).In h₀) (N : News h₀ L s.heap news) (T : Top hd.view_39 (looseW hd.view_39 [Str.ofString "big_endian_int"]) mean mg mb h₀)
    (hk : cs.kind = .function) (hx0 : 0 < x) (hx1 : sz x ≤ 1000) (hdp : dp + 1 < recursionLimit) (hun : un + 8 < cLine)
    (hret : ∀ (b : Array UInt8) (t : Tok) (h' : Heap) (tk' : Nat), KBw.bInts b = form x → Fr h₀ L h' m → News h₀ L h' news → Q (.bytes b t) { s with heap := h', toks := tk' }) :
    wpAny (model PySem.Challenge.rw_it0023_01.row.prog w) (ktrTop dp un gd cn cs L a ccd cl outer) (call (.ref 28) [.int x t]) Q E s := by
  revert X; k_fill; intro X
  refine wpAny_call ?_
  k_dflt cell_enter
  k_steps
  · rw [sz_eq]
    refine toBig hx1 (by omega) (lt_sz (by omega)) ?_
    intro b t' k' hb
    k_steps
    exact hret _ _ _ _ hb (by k_asm) (by k_asm)
  · exfalso
    have h1 := sz_pos hx0
    rename_i h2
    rw [sz_eq] at h2
    omega
end Mine
end

section
open PySem PySem.W PyProof.Rows
set_option Elab.async false
set_option maxRecDepth 100000
set_option maxHeartbeats 8000000
set_option pp.deepTerms false
set_option pp.deepTerms.threshold 8
set_option pp.proofs.threshold 0
set_option linter.unusedVariables false
namespace Mine
theorem bti {w : World} {mean : ExcName → Option Value} {mg mb : Str → Option Value} (dp un : Nat) (gd : Option (List Code)) (cn : Str) (cs : Scope) (a : Addr) (ccd : Value) (cl : List (Str × Addr)) (outer : List Env) (A₀ : Around) (base h₀ : Heap) (L : Addr) (m : Str → Option Value) (news : List (Addr × Obj)) (s : Shared) (Q E : Value → Shared → Prop)
    (b : Array UInt8) (ks : List Int) (t : Tok)
    (B : Below A₀ base outer h₀) (F : Fr h₀ L s.heap m) (X : (hd.heap_39 w.params).In h₀) (N : News h₀ L s.heap news) (T : Top hd.view_39 (looseW hd.view_39 [Str.ofString "big_endian_int"]) mean mg mb h₀)
    (hk : cs.kind = .function) (hb : KBw.bInts b = ks) (hl : ks.length ≤ 1000) (hdp : dp + 1 < recursionLimit) (hun : un + 8 < cLine)
    (hret : ∀ (t : Tok) (h' : Heap) (tk' : Nat), Fr h₀ L h' m → News h₀ L h' news → Q (.int (KFB.value ks) t) { s with heap := h', toks := tk' }) :
    wpAny (model PySem.Challenge.rw_it0023_01.row.prog w) (ktrTop dp un gd cn cs L a ccd cl outer) (call (.ref 21) [.bytes b t]) Q E s := by
  revert X; k_fill; intro X
  subst hb
  refine wpAny_call ?_
  k_dflt cell_enter
  k_steps
  refine callBig (by assumption) (.head _) hl (fun t5 k5 => ?_)
  k_steps
  exact hret _ _ _ (by k_asm) (fun p hp => (by assumption : News h₀ L _ (_ :: news)) p (.tail _ hp))
end Mine
end

section
open PySem PySem.W PySem.Calls PyProof.Rows
set_option Elab.async false
set_option maxRecDepth 100000
set_option maxHeartbeats 4000000
namespace Mine
theorem wd_slot : Slot "wrapper_descriptor" "__get__" "wrapper_descriptor.__get__" :=
  .of (owner := "wrapper_descriptor") (n := "__get__") (by rw [typeLookup_type, builtinLookup_eq_fast]; kernel_rfl) (by decide +kernel) (by decide +kernel) (by decide +kernel)
    (by first | exact .inl (by decide +kernel) | exact .inr (by decide +kernel)) (by rw [isSubtype_type]; kernel_rfl)
theorem wd_entry : entryFor table "wrapper_descriptor.__get__" = some Builtin.«wrapper_descriptor.__get__» := entryFor_of_tree (by kernel_rfl)
theorem wd_args (a b c : Value) : argsOk "wrapper_descriptor.__get__" ⟨[a, b, c], []⟩ := by unfold argsOk; kernel_rfl
theorem ei_type : typeOf (.builtin "Exception.__init__") = pure (.type "wrapper_descriptor") := by show builtinType _ = _; rw [builtinType_eq_fast]; kernel_rfl
theorem ei_name : (kfb_private% "nameAndClass") (.builtin "Exception.__init__") = pure (PySem.Str.ofString "__init__", Value.type "Exception") := by kernel_rfl
section
variable {prog : Program} {w : World} {M : Model} {A : Around} {E : Value → Shared → Prop} {s : Shared}
theorem ei_get {e C : Addr} {P : Fin → Shared → Prop} (hi : Looks M s.heap (isInstance (.ref e) (.type "Exception")) true)
    (h : P (.done (.ret (.ref s.heap.objs.size))) { s with heap := s.heap.push { cls := .type "method-wrapper", data := .fields #[.builtin "Exception.__init__", .ref e] } }) :
    wpAny M A (Builtin.«wrapper_descriptor.__get__» ⟨[.builtin "Exception.__init__", .ref e, .ref C], []⟩) P E s := by
  unfold Builtin.«wrapper_descriptor.__get__»
  refine wpAny_bind (wpAny_of_eq (a := (.builtin "Exception.__init__", some (.ref e), some (.ref C))) (by first | rfl | kernel_rfl) ?_)
  show wpAny _ _ ((kfb_private% "checkInstance") (.builtin "Exception.__init__") (.ref e) >>= fun _ => _) _ _ _
  refine wpAny_bind ?_
  show wpAny _ _ ((kfb_private% "nameAndClass") (.builtin "Exception.__init__") >>= fun _ => _) _ _ _
  rw [ei_name]
  refine wpAny_bind (wpAny_pure ?_)
  dsimp only
  refine wpAny_bind (hi.here ?_)
  refine KFB.if_not rfl ?_
  refine wpAny_pure ?_
  exact wpAny_bind (wpAny_newObj_type (wpAny_pure h))
end
section
variable {prog : Program} {w : World} {A : Around} {E : Value → Shared → Prop} {h : Heap} {g : Array GenState} {d : Drawn} {t : Nat} {os : OsState}
theorem ei_ga {so D x C : Addr} {l₀ l : List Value} {K : Frag} {tk : Tok} {Q : Fin → Shared → Prop}
    (hso : h.get? so = some { cls := .type "super", dict := none, data := .fields #[.ref D, .ref x, .ref C], slots := #[] }) (hno : Looks (model prog w) h (opaqueClassAbove (.ref C)) none)
    (hC : Looks (model prog w) h (mroOf (.ref C)) l₀) (hl : (l₀.dropWhile (· != .ref D)).drop 1 = l) (X : K.In h)
    (hf : alongIn K "__init__" l = some (some (.builtin "Exception.__init__"))) (hi : Looks (model prog w) h (isInstance (.ref x) (.type "Exception")) true) (hxC : x ≠ C)
    (hq : Q (.done (.ret (.ref h.objs.size))) ⟨h.push { cls := .type "method-wrapper", data := .fields #[.builtin "Exception.__init__", .ref x] }, g, d, t, os⟩) :
    wpAny (model prog w) A (Builtin.«super.__getattribute__» ⟨[.ref so, .str "__init__" tk], []⟩) Q E ⟨h, g, d, t, os⟩ := by
  have hlk := wd_slot.lookup
  have hn : ((PySem.Str.ofString "__init__") == (PySem.Str.ofString "__class__")) = false := by decide +kernel
  have hne : (Value.ref x == Value.ref C) = false := by simp [hxC]
  have hdt : ({ cls := .type "super", dict := none, data := .fields #[.ref D, .ref x, .ref C], slots := #[] } : Obj).data = .fields #[.ref D, .ref x, .ref C] := rfl
  have f0 : (#[.ref D, .ref x, .ref C] : Array Value)[0]? = some (.ref D) := rfl
  have f1 : (#[.ref D, .ref x, .ref C] : Array Value)[1]? = some (.ref x) := rfl
  have f2 : (#[.ref D, .ref x, .ref C] : Array Value)[2]? = some (.ref C) := rfl
  have fT : ∀ {Q' : Value → Shared → Prop} {s' : Shared} {A' : Around} {E' : Value → Shared → Prop}, Q' (.type "wrapper_descriptor") s' → wpAny (model prog w) A' (typeOf (.builtin "Exception.__init__")) Q' E' s' := fun q => wpAny_of_eq ei_type q
  unfold Builtin.«super.__getattribute__»
  repeat (first
    | (with_reducible refine wpAny_field hso hdt f0 ?_) | (with_reducible refine wpAny_field hso hdt f1 ?_) | (with_reducible refine wpAny_field hso hdt f2 ?_)
    | (with_reducible refine ks_wpAny_notOpaque hno ?_)
    | (with_reducible refine Looks.at hC ?_; rw [hl])
    | (refine ks_forIn_along X (fun _ _ => rfl) rfl ?_ hf)
    | (with_reducible refine fT ?_)
    | (refine wpAny_call_entry wd_slot ei_type wd_entry (ei_get hi ⟨_, rfl, ?_⟩) (wd_args _ _ _))
    | (simp only [hn, hne, Bool.or_false, Bool.false_eq_true, if_false])
    | wp_step
    | dsimp only)
  all_goals exact hq
theorem ei_method {so D x C : Addr} {l₀ l : List Value} {K : Frag} {pl : Sem Bool} {Q : Value × List Value → Shared → Prop}
    (hso : h.get? so = some { cls := .type "super", dict := none, data := .fields #[.ref D, .ref x, .ref C], slots := #[] }) (hno : Looks (model prog w) h (opaqueClassAbove (.ref C)) none)
    (hC : Looks (model prog w) h (mroOf (.ref C)) l₀) (hl : (l₀.dropWhile (· != .ref D)).drop 1 = l) (X : K.In h)
    (hf : alongIn K "__init__" l = some (some (.builtin "Exception.__init__"))) (hi : Looks (model prog w) h (isInstance (.ref x) (.type "Exception")) true) (hxC : x ≠ C)
    (hq : Q (.ref h.objs.size, []) ⟨h.push { cls := .type "method-wrapper", data := .fields #[.builtin "Exception.__init__", .ref x] }, g, d, t + 1, os⟩) :
    wpAny (model prog w) A (getMethod (.ref so) "__init__" pl) Q E ⟨h, g, d, t, os⟩ := by
  have hlk := F.ks_slot_super_ga.lookup
  have hT : ∀ t', (⟨h, g, d, t', os⟩ : Shared).TypeIs (.ref so) "super" := fun _ => ⟨_, hso, rfl⟩
  unfold getMethod
  refine wpAny_bind (wpAny_specialOf (hT _) hlk ?_)
  show wpAny _ _ (if (Manifest.canonical "super.__getattribute__" != "object.__getattribute__") = true then _ else _) _ _ _
  rw [if_pos F.ks_canon_super_ga]
  unfold getAttr getAttrBy
  refine wpAny_bind (wpAny_bind (wpAny_mkText (wpAny_holding (wpAny_bind (wpAny_typeOf (hT _) (wpAny_bind (wpAny_of_eq hlk ?_)))))))
  show wpAny _ _ (getAttrByItsOwn (.ref so) (.str "__init__" t) (.type "super") (.builtin "super.__getattribute__") true false) _ _ _
  unfold getAttrByItsOwn hookBefore callGetattribute boundAndCalled
  refine wpAny_bind (wpAny_of_eq (show (if onTheHeap (.type "super") then typeLookup (.type "super") "__getattr__" else pure none) = pure none from rfl) ?_)
  refine wpAny_bind (wpAny_attempt (wpAny_holding ?_))
  show wpAny _ _ (bindSpecial (.builtin "super.__getattribute__") (.ref so) >>= _) _ _ _
  refine wpAny_bind (wpAny_of_eq (F.ks_slot_super_ga.bind _) ?_)
  refine wpAny_mono (Q := fun v s' => v = .ref h.objs.size ∧ s' = ⟨h.push { cls := .type "method-wrapper", data := .fields #[.builtin "Exception.__init__", .ref x] }, g, d, t + 1, os⟩) (E := fun _ _ => False)
    (wpAny_call_entry F.ks_slot_super_ga (hT _) F.ks_entry_super_ga (ei_ga hso hno hC hl X hf hi hxC ⟨_, rfl, rfl, rfl⟩) (F.ks_gaArgs_super _ _)) (fun v s' hv => ?_) fun _ _ z => z.elim
  obtain ⟨rfl, rfl⟩ := hv
  exact wpAny_pure (wpAny_pure hq)
end
end Mine
end

section
open PySem PySem.W PySem.Calls PyProof.Rows
set_option Elab.async false
set_option maxRecDepth 100000
set_option maxHeartbeats 4000000
set_option pp.deepTerms false
set_option pp.deepTerms.threshold 8
set_option pp.proofs.threshold 0
namespace Mine
section
variable {prog : Program} {w : World} {A : Around} {E : Value → Shared → Prop} {h : Heap} {g : Array GenState} {d : Drawn} {t : Nat} {os : OsState}
variable {nm q : Str} {C N : Addr} {bs bm : List Value} {hdct : Bool} {sn : List Str} {sub : List Value} {ab : Bool} {col : Option Bool} {dC : Option Addr} {k0 k1 k2 k3 k5 : Option Value} {newId : String}
theorem ei_check {e : Addr} {m : Value} {oe : Obj} {Q : Unit → Shared → Prop} (hC : h.get? C = some (excClassObj nm q C N bs bm hdct sn sub ab col dC k0 k1 k2 k3 k5 newId)) (he : h.get? e = some oe) (hcls : oe.cls = .ref C)
    (hq : Q () ⟨h, g, d, t, os⟩) : wpAny (model prog w) A (checkBoundCall "Exception.__init__" ⟨[.ref e, m], []⟩) Q E ⟨h, g, d, t, os⟩ := by
  have F := PySem.F.excBase_Exception
  unfold checkBoundCall
  simp only [F.initRow, F.initKind]
  repeat (first | (with_reducible refine wpAny_loadPart_at he ?_; rw [hcls]) | with_reducible refine wpAny_loadPart_at hC ?_ | wp_step)
  exact hq
theorem ei_call {e mw tp : Addr} {m : Value} {dd : Option Addr} {sl : Array (Option Value)} {Q : Value → Shared → Prop}
    (hC : h.get? C = some (excClassObj nm q C N bs bm hdct sn sub ab col dC k0 k1 k2 k3 k5 newId))
    (hmw : h.get? mw = some { cls := .type "method-wrapper", data := .fields #[.builtin "Exception.__init__", .ref e] })
    (he : h.get? e = some ⟨.ref C, dd, .fields #[.ref tp, .none, .none, .none, .bool false, .none], sl⟩)
    (hq : ∀ h', (∀ b o, b ≠ e → h.get? b = some o → h'.get? b = some o) → h'.get? e = some ⟨.ref C, dd, .fields #[.ref h.objs.size, .none, .none, .none, .bool false, .none], sl⟩ → Q .none ⟨h', g, d, t, os⟩) :
    wpAny (model prog w) A (call (.ref mw) [m]) Q E ⟨h, g, d, t, os⟩ := by
  refine wpAny_call (codeAny_of_tree ?_)
  show wpAny _ A.in1 (callAny (.ref mw) ⟨[m], []⟩) _ _ _
  simp only [callAny]
  refine wpAny_bind (wpAny_load hmw ?_)
  simp only [show (Value.type "method-wrapper" == Value.type "method" || Value.type "method-wrapper" == Value.type "builtin_function_or_method" || Value.type "method-wrapper" == Value.type "method-wrapper") = true by decide, if_true]
  refine KFB.if_so (by decide) ?_
  refine wpAny_bind (ei_check hC he rfl ?_)
  refine wpAny_bind (wpAny_pure (wpAny_pure ?_))
  show (Code.builtin "Exception.__init__" ⟨[.ref e, m], []⟩).quiet = true ∧ codeAny _ _ (Code.builtin "Exception.__init__" ⟨[.ref e, m], []⟩) _ _
  refine ⟨Code.quiet_builtin _ (by decide +kernel), codeAny_builtin PySem.F.excBase_Exception.initEntry ?_⟩
  unfold Builtin.«BaseException.__init__»
  have hl : ∀ {Q' : Unit → Shared → Prop} {s' : Shared} {A' : Around} {E' : Value → Shared → Prop} {l : List Value}, Q' () s' → wpAny (model prog w) A' (letGo l) Q' E' s' := fun q => wpAny_letGo q
  repeat (first | (with_reducible refine wpAny_loadPart_at he ?_) | (with_reducible refine hl ?_) | wp_step)
  refine hq _ (fun b o hb hbo => ?_) ?_
  · rw [Heap.get?_update_other _ _ (Ne.symm hb)]
    exact Heap.get?_push_of_some _ hbo
  · rw [Heap.get?_update_self _ (Heap.get?_push_of_some _ he) rfl]
    rfl
end
end Mine
end

section
open PySem PySem.W PySem.Calls PyProof.Rows
open PySem.Builtin PySem.Builtin.ObjectAttr
set_option Elab.async false
set_option maxRecDepth 100000
set_option maxHeartbeats 4000000
set_option pp.deepTerms false
set_option pp.deepTerms.threshold 8
set_option pp.proofs.threshold 0
namespace Mine
section
variable {prog : Program} {w : World} {A : Around} {s : Shared} {K : Frag} {C P x : Addr} {R : Result → Shared → Prop}
theorem refuseE (self : Value) : refuseLoop self "__setattr__" [.type "Exception", .type "BaseException", .type "object"] = pure () := by kernel_rfl
theorem osa_exc {cd : ClassData} {name : Str} {tk : Tok} {v : Value} {vs : Array Value} {sl : Array (Option Value)} (X : K.In s.heap) (hx : s.heap.get? x = some ⟨.ref C, none, .fields vs, sl⟩)
    (hc : clsIn K C = some cd) (hm : cd.mro = [.ref C, .ref P, .type "Exception", .type "BaseException", .type "object"]) (ht : takerIn K C name = some none) (hd : cd.hasDict = true)
    (h : ∀ h' dx, (∀ b o, b ≠ x → s.heap.get? b = some o → h'.get? b = some o) → h'.get? x = some ⟨.ref C, some dx, .fields vs, sl⟩ → R (.ok (.ret .none)) { s with heap := h', toks := s.toks + 1 }) :
    codeAny (model prog w) A (.call (.builtin "object.__setattr__") ⟨[.ref x, .str name tk, v], []⟩) R s := by
  have I : InstAt s.heap x ⟨.ref C, none, .fields vs, sl⟩ C none := ⟨hx, rfl, rfl, trivial⟩
  have SF := PySem.F.store_object
  have sub : Looks (model prog w) s.heap (isInstance (.ref x) (.type "object")) true := I.type.andThen (looks_mroIn X (by unfold mroIn; rw [hc, Option.bind_some, hm]; rfl))
  refine codeAny_call_builtin SF.slot.plain SF.entry (@check_slot (model prog w) _ _ s "object.__setattr__" "object" "__setattr__" (.ref x) [.str name tk, v] [] _ SF.kind SF.split sub (SF.args (.ref x) (.str name tk) v) ?_)
  obtain ⟨attr, ha, hr⟩ := Option.bind_eq_some_iff.mp ht
  have hml : Looks (model prog w) s.heap (mroOf (.ref C)) cd.mro := (looks_clsIn X hc).andThen .now
  have L3 : Looks (model prog w) s.heap (storeTaker? attr) none := by
    cases attr with
    | none => exact .now
    | some a =>
      obtain ⟨b, hb, hbb⟩ := Option.map_eq_some_iff.mp hr
      refine (looks_takesIn X hb).andThen ?_
      cases b
      · exact .now
      · cases hbb
  rw [osa_eq, refuse_eq]
  refine wpAny_bind (wpAny_bind (I.type.here (wpAny_bind (hml.here ?_))))
  rw [hm, refuseLoop_ref, refuseLoop_ref, refuseE]
  refine wpAny_pure (wpAny_bind (I.type.here (wpAny_bind ((looks_findIn X ha).here (wpAny_bind (L3.here ?_))))))
  show wpAny _ _ (storeInOwnDict (.ref x) (.ref C) (.str name tk) name v attr.isSome) _ _ _
  refine wpAny_bind (wpAny_pure (wpAny_bind (wpAny_bind (wpAny_loadPart hx (wpAny_bind ((looks_clsIn X hc).here ?_))))))
  rw [hd]
  repeat (first | wp_step)
  have hxs : x ≠ s.heap.objs.size := Nat.ne_of_lt (Heap.lt_size hx)
  have D : ((s.heap.push { cls := .type "dict", data := .dict #[] }).update x fun o => { o with dict := some s.heap.objs.size }).get? s.heap.objs.size = some (dictOf [] 0) := by
    rw [Heap.get?_update_other _ _ hxs]
    exact Heap.get?_push_size _ rfl
  refine wpAny_askSetting (wpAny_pure (wpAny_bind (wpAny_mkText (wpAny_bind (wpAny_loadPart D ?_)))))
  dsimp only
  rw [aRefKeyMayBeTheName_at]
  refine KFB.if_not (by simp) ?_
  refine wpAny_updatePart D ?_
  have D' := Heap.get?_update_self (Obj.putName name (PyData.keyHash w.params name) (.str name s.toks) v) D (by rw [putName_dict]; rfl)
  rw [putName_dict] at D'
  refine wpAny_bind (wpAny_lookBehind D' (pastItsLine_dict (by rw [sizeLine_eq]; simp [putL])) ?_)
  refine wpAny_pure (h _ s.heap.objs.size (fun b o hb hbo => ?_) ?_)
  · have hbs : b ≠ s.heap.objs.size := Nat.ne_of_lt (Heap.lt_size hbo)
    rw [Heap.get?_update_other _ _ (Ne.symm hbs), Heap.get?_update_other _ _ (Ne.symm hb)]
    exact Heap.get?_push_of_some _ hbo
  · rw [Heap.get?_update_other _ _ (Ne.symm hxs), Heap.get?_update_self _ (Heap.get?_push_of_some _ hx) rfl]
end
end Mine
end

section
open PySem PySem.W PySem.Calls PyProof.Rows
open PySem.Builtin PySem.Builtin.ObjectAttr
set_option Elab.async false
set_option maxRecDepth 100000
set_option maxHeartbeats 4000000
set_option pp.deepTerms false
set_option pp.deepTerms.threshold 8
set_option pp.proofs.threshold 0
namespace Mine
section
variable {prog : Program} {w : World} {A : Around} {E : Value → Shared → Prop} {R : Result → Shared → Prop} {h : Heap} {g : Array GenState} {d : Drawn} {t : Nat} {os : OsState} {K : Frag}
variable {nm q : Str} {C N : Addr} {bs bm : List Value} {hdct : Bool} {sn : List Str} {sub : List Value} {ab : Bool} {col : Option Bool} {dd : Option Addr} {k0 k1 k2 k3 k5 : Option Value} {Bn newId inN : String} {bmN : List Value}
theorem exc2_check_new {M : Model} (Fn : ExcBaseFacts Bn newId inN bmN) (hB : (Value.ref C :: bm).contains (.type Bn) = true) {rest : List Value} {Q : Unit → Shared → Prop} (hC : h.get? C = some (excClassObj nm q C N bs bm hdct sn sub ab col dd k0 k1 k2 k3 k5 newId))
    (hq : Q () ⟨h, g, d, t, os⟩) : wpAny M A (checkBuiltinCall newId ⟨.ref C :: rest, []⟩) Q E ⟨h, g, d, t, os⟩ := by
  have hstar := Fn.noStar
  simp only [checkBuiltinCall, Fn.newKind, Fn.newSplit, Fn.newRow]
  repeat (first | refine wpAny_loadPart_at hC ?_ | (refine wpAny_isSubtype_exc hC ?_; rw [hB]) | refine wpAny_staticBase_exc hC ?_ | refine wpAny_madeBy_exc hC ?_ | simp only [bne_self_eq_false, Bool.false_eq_true, if_false] | wp_step)
  exact hq
theorem exc2_new (Fn : ExcBaseFacts Bn newId inN bmN) (hB : (Value.ref C :: bm).contains (.type Bn) = true) (hA : (Value.ref C :: bm).contains (.type "AttributeError") = false) (hN : (Value.ref C :: bm).contains (.type "NameError") = false)
    {rest : List Value} (hC : h.get? C = some (excClassObj nm q C N bs bm hdct sn sub ab col dd k0 k1 k2 k3 k5 newId))
    (hq : R (.ok (.ret (.ref (h.objs.size + 1)))) ⟨(h.push { cls := .type "tuple", data := .seq rest.toArray }).push
      { cls := .ref C, data := .fields #[.ref h.objs.size, .none, .none, .none, .bool false, .none] }, g, d, t, os⟩) (hrest : rest.length ≤ sizeLine := by size_fits) :
    codeAny (model prog w) A (.builtin newId ⟨.ref C :: rest, []⟩) R ⟨h, g, d, t, os⟩ := by
  have hends := Fn.ends
  refine codeAny_builtinAt Fn.entry ?_
  unfold Builtin.«BaseException.__new__»
  refine PySem.wpAt_bind ?_
  show PySem.wpAt _ _ _ (stack >>= _) _ _ _
  refine PySem.wpAt_bind (PySem.wpAt_stack fun p below => PySem.wpAt_of_wpAny ?_)
  wp_walk
  refine PySem.wpAt_of_wpAny ?_
  rw [Fn.owner]
  repeat (first | with_reducible refine wpAny_madeHere_exc Fn.canon hC ?_ | with_reducible refine wpAny_loadPart_at hC ?_ | (with_reducible refine wpAny_isSubtype_exc hC ?_; first | rw [hB] | rw [hA] | rw [hN]) | wp_step)
  show R _ _
  rw [Heap.size_push]
  exact hq
theorem exc2_type_call (Fn : ExcBaseFacts Bn newId inN bmN) (hB : (Value.ref C :: bm).contains (.type Bn) = true) (hA : (Value.ref C :: bm).contains (.type "AttributeError") = false) (hN : (Value.ref C :: bm).contains (.type "NameError") = false)
    {rest : List Value} {fI : Addr} {Q : PySem.Fin → Shared → Prop} (X : K.In h)
    (hC : h.get? C = some (excClassObj nm q C N bs bm hdct sn sub ab col dd k0 k1 k2 k3 k5 newId)) (hi : findIn K (.ref C) "__init__" = some (some (.ref fI))) (hf : typeIn K (.ref fI) = some (.type "function"))
    (hq : ∀ h' e, Heap.MadeExcOf h h' e (.ref C) rest →
      wpAny (model prog w) A (call (.ref fI) (.ref e :: rest)) (fun r s' => r = .none ∧ Q (.done (.ret (.ref e))) s') E ⟨h', g, d, t, os⟩) (hrest : rest.length ≤ sizeLine := by size_fits) :
    wpAny (model prog w) A (Builtin.«type.__call__» ⟨.ref C :: rest, []⟩) Q E ⟨h, g, d, t, os⟩ := by
  repeat (first | with_reducible refine wpAny_loadPart_at hC ?_ | with_reducible refine wpAny_madeBy_exc hC ?_ | wp_step)
  refine codeAny_call_builtin_code (Code.quiet_builtin _ Fn.quiet) (exc2_check_new Fn hB hC ?_)
  refine exc2_new Fn hB hA hN hC ?_ hrest
  show wpAny _ _ _ _ _ _
  have up : ∀ {b : Addr} {o : Obj}, h.get? b = some o → ((h.push { cls := .type "tuple", data := .seq rest.toArray }).push { cls := .ref C, data := .fields #[.ref h.objs.size, .none, .none, .none, .bool false, .none] }).get? b = some o :=
    fun e => Heap.get?_push_of_some _ (Heap.get?_push_of_some _ e)
  have hC₁ := up hC
  have X₁ : K.In ((h.push { cls := .type "tuple", data := .seq rest.toArray }).push { cls := .ref C, data := .fields #[.ref h.objs.size, .none, .none, .none, .bool false, .none] }) := X.keeps fun b o e => up e
  have hget : ((h.push { cls := .type "tuple", data := .seq rest.toArray }).push
      { cls := .ref C, data := .fields #[.ref h.objs.size, .none, .none, .none, .bool false, .none] }).get? (h.objs.size + 1) = some
      { cls := .ref C, data := .fields #[.ref h.objs.size, .none, .none, .none, .bool false, .none] } := by heap_get
  have hcC : (Value.ref C :: bm).contains (.ref C) = true := by simp
  unfold isInstance
  repeat (first | with_reducible refine wpAny_loadPart_at hget ?_ | (with_reducible refine wpAny_isSubtype_exc hC₁ ?_; rw [hcC]) | wp_step)
  show wpAny _ _ (typeLookup (.ref C) _) _ _ _
  refine (looks_findIn X₁ hi).here ?_
  refine wpAny_holding (wpAny_bind ?_)
  unfold bindSpecial
  refine wpAny_bind ((looks_typeIn X₁ hf).here ?_)
  rw [if_pos (by decide)]
  refine wpAny_pure (wpAny_bind (wpAny_mono (hq _ (h.objs.size + 1) ⟨fun b o hb => up hb, Heap.get?_none_of_le (Nat.le_succ _), h.objs.size, hget, Heap.get?_none_of_le (Nat.le_refl _), ?_⟩) (fun r s' hr => ?_) fun _ _ x => x))
  · exact Heap.get?_push_of_some _ (Heap.get?_push_at rfl rfl)
  · obtain ⟨rfl, hQ⟩ := hr
    wp_walk
    exact hQ
theorem exc2_call (Fn : ExcBaseFacts Bn newId inN bmN) (hB : (Value.ref C :: bm).contains (.type Bn) = true) (hA : (Value.ref C :: bm).contains (.type "AttributeError") = false) (hN : (Value.ref C :: bm).contains (.type "NameError") = false)
    {rest : List Value} {fI : Addr} {Q : Value → Shared → Prop} (X : K.In h)
    (hC : h.get? C = some (excClassObj nm q C N bs bm hdct sn sub ab col dd k0 k1 k2 k3 k5 newId)) (hi : findIn K (.ref C) "__init__" = some (some (.ref fI))) (hf : typeIn K (.ref fI) = some (.type "function"))
    (hq : ∀ h' e, Heap.MadeExcOf h h' e (.ref C) rest →
      wpAny (model prog w) (A.under (.builtin "type.__call__" ⟨.ref C :: rest, []⟩)) (call (.ref fI) (.ref e :: rest)) (fun r s' => r = .none ∧ Q (.ref e) s') E ⟨h', g, d, t, os⟩) (hrest : rest.length ≤ sizeLine := by size_fits) :
    wpAny (model prog w) A (call (.ref C) rest) Q E ⟨h, g, d, t, os⟩ := by
  have f1 := tc_lookup
  have f2 := tc_bind (.ref C)
  have hT : (⟨h, g, d, t, os⟩ : Shared).TypeIs (.ref C) "type" := ⟨_, hC, rfl⟩
  refine wpAny_call (codeAny_of_tree ?_)
  show wpAny _ _ (callAny (.ref C) _) _ _ _
  repeat (any_goals (first | assumption | with_reducible refine wpAny_loadPart_at hC ?_ | wp_step))
  refine ⟨rfl, ?_⟩
  refine codeAny_call_builtin_at (Code.quiet_builtin _ (by decide +kernel)) entry_typeCall (wpAny_check_type_call_sub hC (exc2_type_call (hrest := hrest) Fn hB hA hN X hC hi hf fun h' e hm => ?_))
  exact hq h' e hm
end
section
variable {prog : Program} {w : World} {A : Around} {E : Value → Shared → Prop} {s : Shared} {K : Frag} {C P x D so : Addr} {h₀ : Heap} {L : Addr} {m : Str → Option Value} {news : List (Addr × Obj)}
theorem set_exc {cd : ClassData} {name : Str} {v : Value} {vs : Array Value} {sl : Array (Option Value)} {Q : Unit → Shared → Prop} (X : K.In s.heap) (hx : s.heap.get? x = some ⟨.ref C, none, .fields vs, sl⟩)
    (hs : findIn K (.ref C) "__setattr__" = some (some (.builtin "object.__setattr__")))
    (hc : clsIn K C = some cd) (hm : cd.mro = [.ref C, .ref P, .type "Exception", .type "BaseException", .type "object"]) (ht : takerIn K C name = some none) (hd : cd.hasDict = true)
    (h : ∀ h' dx, (∀ b o, b ≠ x → s.heap.get? b = some o → h'.get? b = some o) → h'.get? x = some ⟨.ref C, some dx, .fields vs, sl⟩ → Q () { s with heap := h', toks := s.toks + 2 }) :
    wpAny (model prog w) A (setAttr (.ref x) name v) Q E s :=
  set_plain (od := none) X (show W.InstAt s.heap x ⟨.ref C, none, .fields vs, sl⟩ C none from ⟨hx, rfl, rfl, trivial⟩) hs (osa_exc (s := { s with toks := s.toks + 1 }) X hx hc hm ht hd fun h' dx k1 k2 => h h' dx k1 k2)
abbrev mwObj (x : Addr) : Obj := { cls := .type "method-wrapper", data := .fields #[.builtin "Exception.__init__", .ref x] }
theorem super_K {pl : Sem Bool} {ox : Obj} {odx : Option Obj} {Q : Value × List Value → Shared → Prop} (F : Fr h₀ L s.heap m) (X₀ : K.In h₀) (N : News h₀ L s.heap news) (hso : (so, ks_superObj D x C) ∈ news) (I : W.InstAt s.heap x ox C odx) (ho : nsIn K cStatics "thirdparty.any" = some none)
    (hm : ks_superIn K C D "__init__" = some (some (.builtin "Exception.__init__"))) (hi : mroIn K C (.type "Exception") = some true)
    (h : ∀ q h', Fr h₀ L h' m → News h₀ L h' ((q, mwObj x) :: news) → (∀ p ∈ news, p.1 < q) → Q (.ref q, []) { s with heap := h', toks := s.toks + 1 }) : wpAny (model prog w) A (getMethod (.ref so) "__init__" pl) Q E s := by
  have X : K.In s.heap := X₀.keeps F.keep
  obtain ⟨hh, g, d, t, os⟩ := s
  cases hc : clsIn K C with
  | none => unfold ks_superIn at hm; rw [hc] at hm; cases hm
  | some cd =>
    unfold ks_superIn at hm
    rw [hc] at hm
    refine ei_method (N _ hso).1 (looks_opaque X ho) (l₀ := cd.mro) ?_ rfl X hm (I.type.andThen (looks_mroIn X hi)) (ks_ne X I hc) ?_
    · exact fun A Q E s k q => wpAny_bind ((looks_clsIn X hc) A _ E s k (wpAny_pure q))
    · obtain ⟨F', N', l'⟩ := ks_newsPush (s := ⟨hh, g, d, t, os⟩) (o := mwObj x) F N rfl (Heap.get?_push_at rfl rfl) (fun b o e => Heap.get?_push_of_some _ e)
      exact h _ _ F' N' l'
theorem callWith_mw {pos : Pos} {u y : Addr} {env : Env} {e : Expr} {rest : List Expr} {Q : Value → Shared → Prop} {M : Model}
    (h : wpAny M A (spliced (backTo pos (starEach (e :: rest) env))) (fun vs s₁ => s₁.heap.get? u = some (mwObj y) ∧ wpAny M A (call (.ref u) vs) Q E s₁) E s)
    (he : starEach (e :: rest) env = (false, eval e env) :: starEach rest env := by rfl) (hplain : (backTo pos (starEach rest env)).any (·.1) = false := by rfl) :
    wpAny M A (callWith pos (.ref u) [] (backTo pos (starEach (e :: rest) env)) []) Q E s := by
  rw [he] at h ⊢
  have hp : (backTo pos ((false, eval e env) :: starEach rest env)).any (·.1) = false := by show (false || (backTo pos (starEach rest env)).any (·.1)) = false; rw [hplain]; rfl
  unfold callWith
  refine wpAny_bind (wpAny_holding (wpAny_mono (evalArgs_plain (Q := fun x s₁ => s₁.heap.get? u = some (mwObj y) ∧ wpAny M A (call (.ref u) x.pos x.kw) Q E s₁) h) (fun x s₁ h₁ => wpAny_bind (wpAny_standAt ?_)) fun _ _ x => x))
  obtain ⟨ho, hcall⟩ := h₁
  simp only [hp, List.any_nil, Bool.or_false]
  refine wpAny_bind (m := keeperOf (.ref u)) ?_
  unfold keeperOf
  refine wpAny_bind (wpAny_load ho ?_)
  simp only [show (Value.type "method-wrapper" != Value.type "method") = true by decide, show (Value.type "method-wrapper" == Value.type "builtin_function_or_method" || Value.type "method-wrapper" == Value.type "method-wrapper") = true by decide, if_true]
  refine wpAny_pure ?_
  exact wpAny_bind (wpAny_mono hcall (fun r s₂ hr => wpAny_bind (wpAny_holding (wpAny_point (wpAny_pure hr)))) fun _ _ x => x)
theorem upd_e {h h' : Heap} {e : Addr} {ob ob' : Obj} (F : Fr h₀ L h m) (N : News h₀ L h ((e, ob) :: news)) (hne : ∀ p ∈ news, p.1 ≠ e) (hk : ∀ b o, b ≠ e → h.get? b = some o → h'.get? b = some o) (he : h'.get? e = some ob') :
    Fr h₀ L h' m ∧ News h₀ L h' ((e, ob') :: news) := by
  have Ne := N (e, ob) (.head _)
  obtain ⟨oL, es, ep, hL, r⟩ := F.ns
  refine ⟨⟨⟨oL, es, ep, hk _ _ (Ne.2.1.symm) hL, r⟩, fun b o q => hk b o (fun z => ?_) (F.keep b o q), F.above⟩, fun p hp => ?_⟩
  · rw [z, Ne.2.2] at q; cases q
  · rcases List.mem_cons.mp hp with rfl | hp
    · exact ⟨he, Ne.2⟩
    · have Np := N p (.tail _ hp)
      exact ⟨hk _ _ (hne p hp) Np.1, Np.2⟩
end
end Mine
end

section
open PySem PySem.W PySem.Calls PyProof.Rows
set_option Elab.async false
set_option maxRecDepth 100000
set_option maxHeartbeats 4000000
set_option pp.deepTerms false
set_option pp.deepTerms.threshold 8
set_option pp.proofs.threshold 0
namespace Mine
def ExcOb (C : Addr) (ob : Obj) : Prop := ∃ t d sl, ob = ⟨.ref C, d, .fields #[t, .none, .none, .none, .bool false, .none], sl⟩
def RaisedO (K : Frag) (E : Value → Shared → Prop) (v : Value) (s : Shared) : Prop :=
  ∃ x ob C, v = .ref x ∧ s.heap.get? x = some ob ∧ ExcOb C ob ∧ K.In s.heap ∧ ktsIn K C "BaseException" = true ∧ E (.ref x) s
section
variable {prog : Program} {w : World} {A : Around} {E : Value → Shared → Prop} {s : Shared} {env : Env} {K : Params → Frag}
theorem raise_own {e : Expr} {pos : Pos} {Q : Flow → Shared → Prop} (hh : A.handled = none) (h : wpAny (model prog w) A (eval e env) (RaisedO (K w.params) E) E s) :
    wpAny (model prog w) A (exec (.Raise (some e) none pos) env) Q E s := by
  show wpAny _ A (do standAt pos; raiseStmt env (some (do let v ← eval e env; standAt pos; pure v)) none) Q E s
  refine wpAny_bind (wpAny_standAt ?_)
  unfold raiseStmt
  dsimp only
  refine wpAny_bind (wpAny_bind (wpAny_mono h (fun v s₁ h₁ => wpAny_bind (wpAny_standAt (wpAny_pure ?_))) fun _ _ x => x))
  obtain ⟨x, ob, C, rfl, he, ⟨t, d, sl, rfl⟩, X, q, hE⟩ := h₁
  obtain ⟨nm, q', N, bs, bm, hdct, sn, sub, ab, col, dd, k0, k1, k2, k3, k5, newId, hC, hbase, -⟩ := kts_cls X q
  have hcB : (Value.ref C :: bm).contains (.type "BaseException") = true := by rw [List.contains_cons, hbase, Bool.or_true]
  obtain ⟨hp, g, dr, tk, os⟩ := s₁
  repeat (first | with_reducible refine wpAny_loadPart_at he ?_ | with_reducible refine wpAny_loadPart_at hC ?_ | (with_reducible refine wpAny_isSubtype_exc hC ?_; rw [hcB]) | wp_step)
  exact wpAny_raiseNew_none hh hE
end
section
variable {M : Model} {A : Around} {E : Value → Shared → Prop} {s' : Shared} {base g : Heap} {outer : List Env} {L a e C : Addr} {m : Str → Option Value} {name : Str} {scope : Scope} {cd : Value} {Q : Unit → Shared → Prop} {news : List (Addr × Obj)} {ob : Obj}
theorem leave_own (K : Below A base outer g) (F : Fr g L s'.heap m) (N : News g L s'.heap ((e, ob) :: news)) (hne : ∀ p ∈ news, p.1 ≠ e) (ho : ExcOb C ob)
    (hQ : ∀ h', RaisedSN base g outer e (.ref C) news h' → g.UpToSlots h' → Q () { s' with heap := h' }) (hk : scope.kind = .function := by rfl) :
    wpAny M (A.deeper (envOf name scope L a cd)) (leaving (envOf name scope L a cd) (.ref e)) Q E s' := by
  obtain ⟨tt, d, sl, rfl⟩ := ho
  have Ne := N (e, _) (.head _)
  have F0 : Fr g L (s'.heap.hide e) m := by
    obtain ⟨oL, es, ep, hL, r⟩ := F.ns
    refine ⟨⟨oL, es, ep, (Heap.hide_ne _ (Ne.2.1.symm)).trans hL, r⟩, fun b o q => (Heap.hide_ne _ fun z => ?_).trans (F.keep b o q), F.above⟩
    rw [z, Ne.2.2] at q; cases q
  have N0 : News g L (s'.heap.hide e) news := fun p hp => ⟨(Heap.hide_ne _ (hne p hp)).trans (N p (.tail _ hp)).1, (N p (.tail _ hp)).2⟩
  have hkeep : ∀ b o, (s'.heap.hide e).get? b = some o → s'.heap.get? b = some o := fun b o q => Heap.of_hide q
  have hnew : (s'.heap.hide e).get? e = none := Heap.hide_self _ _
  have K' := K.push (name := name) (a := a) (cd := cd) F0 hk
  have hin : ∀ env ∈ (envOf name scope L a cd :: outer), ∀ b, env.frame = some b → b ∈ (envOf name scope L a cd :: outer).filterMap (·.frame) := fun env he b hb => List.mem_filterMap.mpr ⟨env, he, hb⟩
  have st : base.StaysIn (hideAll (s'.heap.hide e) ((envOf name scope L a cd :: outer).filterMap (·.frame))) := fun b o q => hideAll_get _ (K'.stays b o q) fun hm => by
    rw [(K'.frames.mem hm).1] at q; cases q
  have sg : ∀ b o, g.get? b = some o → b ∉ outer.filterMap (·.frame) → (hideAll (s'.heap.hide e) ((envOf name scope L a cd :: outer).filterMap (·.frame))).get? b = some o := fun b o q nm => hideAll_get _ (F0.keep b o q) fun hm => by
    rcases kts_mem hm with z | z
    · rw [z, kts_self F0] at q
      cases q
    · exact nm z
  have hl : ∀ q ∈ news, (hideAll (s'.heap.hide e) ((envOf name scope L a cd :: outer).filterMap (·.frame))).get? q.1 = some q.2 ∧ g.get? q.1 = none ∧ base.get? q.1 = none := fun q hq => by
    refine ⟨hideAll_get _ (N0 q hq).1 fun hm => ?_, (N0 q hq).2.2, fresh_of_stays K.stays (N0 q hq).2.2⟩
    obtain ⟨env, he, hf⟩ := List.mem_filterMap.mp hm
    rcases List.mem_cons.mp he with rfl | he
    · exact (N0 q hq).2.1 (Option.some.inj hf).symm
    · obtain ⟨o, ho, _⟩ := (K.frames.mem (List.mem_filterMap.mpr ⟨env, he, hf⟩)).2
      rw [(N0 q hq).2.2] at ho; cases ho
  have hen : (hideAll (s'.heap.hide e) ((envOf name scope L a cd :: outer).filterMap (·.frame))).get? e = none := by
    cases q : (hideAll (s'.heap.hide e) ((envOf name scope L a cd :: outer).filterMap (·.frame))).get? e with
    | none => rfl
    | some o => have := of_hideAll _ q; rw [hnew] at this; cases this
  refine wpAny_leaving_firstW (a0 := tt) K'.stack ((funFrames_hide K'.frames hin).of_keeps fun b o hb _ => ⟨o, hkeep b o hb, rfl⟩) rfl Ne.1 (fun b o hb => hkeep b o (of_hideAll _ hb)) hen rfl rfl rfl fun h' hL => ?_
  obtain ⟨k1, ⟨_, _, k2⟩, k3, k4⟩ := hL
  exact hQ h' ⟨_, tt, st, sg, hl, k1, hen, k2, k3⟩ (((Heap.UpToSlots.of_keeps F0.keep).trans (Heap.UpToSlots.of_keeps hkeep)).trans k4)
end
section
variable {prog : Program} {w : World} {A₀ : Around} {E : Value → Shared → Prop} {s' : Shared} {base g g₀ G : Heap} {outer : List Env} {L a e C : Addr} {m : Str → Option Value} {name : Str} {scope : Scope} {cd : Value}
  {b₀ : Stmt} {suite : List Stmt} {pos np : Pos} {rest : List ExceptHandler} {Q : Flow → Shared → Prop} {news : List (Addr × Obj)} {KF : Frag}
  {p : Program} {loose : List Str} {mean : ExcName → Option Value} {mg mb : Str → Option Value} {x : Str}
theorem caught_own (R : RaisedSN base G (envOf name scope L a cd :: outer) e (.ref C) news s'.heap) (F : Fr g L G m) (K : Below A₀ base outer g) (hsm : G.UpToSlots s'.heap) (XB : KF.In base) (TB : Top p loose mean mg mb base)
    (D : KtsDicts (outer.filterMap (·.frame)) g) (T0 : KtsTurn (outer.filterMap (·.frame)) g₀ g)
    (ex : nsIn KF mainGlobals x = some (some (.ref C))) (q : ktsIn KF C "BaseException" = true)
    (k : ∀ h' g', KtsTurn (outer.filterMap (·.frame)) g₀ g' → Fr g' L h' m → News g' L h' news → Below A₀ base outer g' → KF.In g' → Top p loose mean mg mb g' → KtsDicts (outer.filterMap (·.frame)) g' →
      wpAny (model prog w) ((A₀.deeper (envOf name scope L a cd)).mark (some (.ref e))) (execs (b₀ :: suite) (envOf name scope L a cd)) Q E { s' with heap := h' })
    (hk : scope.kind = .function := by rfl) (hx : (envOf name scope L a cd).kindOf x = some .globalImplicit := by rfl) (hd : (x == ("__debug__" : Str)) = false := by decide)
    (hE : PassesOwnAt (model prog w) ((A₀.deeper (envOf name scope L a cd)).mark (some (.ref e))) (A₀.deeper (envOf name scope L a cd)) (envOf name scope L a cd) E := by passes_own) :
    wpAny (model prog w) (A₀.deeper (envOf name scope L a cd)) (noteFrame (.ref e) (envOf name scope L a cd))
      (fun _ s₂ => wpAny (model prog w) (A₀.deeper (envOf name scope L a cd)) (setFlight (.ref e) none) (fun _ s₃ =>
        wpAny (model prog w) (A₀.deeper (envOf name scope L a cd)) (handleBy (.ref e) (envOf name scope L a cd) (.ExceptHandler (some (.Name x np)) none (b₀ :: suite) pos :: rest)) Q E s₃) E s₂) E s' := by
  obtain ⟨B, a0, hB, hBG, hl, hfl⟩ := R
  have hL : B.get? L = none := by
    obtain ⟨_, ⟨L', _, hf, hn', _⟩, _⟩ := hfl.2.2.1
    obtain rfl : L = L' := Option.some.inj hf
    exact hn'
  refine wpAny_looks_onW (Around.frames_deeper K.stack) rfl hfl fun h₄ hheld₄ hsm₄ => ?_
  refine wpAny_landsW hheld₄ fun h₅ hheld hsm₅' => ?_
  have hsm₅ := hsm₄.trans hsm₅'
  obtain ⟨g₅, T₅, F₅, K₅⟩ := kts_ground K F hBG hheld.1 (hsm.trans hsm₅)
  have X₅ : KF.In g₅ := XB.keeps K₅.stays
  have P₅ : TopRead p loose mg mb g₅ := topRead_of (TB.keeps K₅.stays)
  obtain ⟨ob, hob, hobc⟩ := hheld.there
  obtain ⟨nm, q', N, bs, bm, hdct, sn, sub, ab, col, dd, k0, k1, k2, k3, k5, newId, hC, hbase, hbT⟩ := kts_cls X₅ q
  have hC₅ := F₅.keep _ _ hC
  refine wpAny_handleBy_cons (codeAny_handlers_test (name_K F₅ X₅ P₅ ex ?_ hk hx hd)) (by intro q; cases q)
  refine wpAny_excMatches_sub_self hC₅ hob hobc hbase (codeAny_handlers_suite ?_)
  refine lands_againW hheld fun h₆ hfl₆ hsm₆ => ?_
  obtain ⟨g₆, T₆, F₆, K₆⟩ := kts_ground K F hBG hfl₆.1 ((hsm.trans hsm₅).trans hsm₆)
  have Nl : News g₆ L h₆ news := fun q hq => ⟨hfl₆.1 _ _ (hl q hq).1, (fun z => by have := (hl q hq).1; rw [z, hL] at this; cases this), T₆.none_ _ (kts_none F.keep (hl q hq).2.1)⟩
  have X₆ : KF.In g₆ := XB.keeps K₆.stays
  have P₆ : Top p loose mean mg mb g₆ := TB.keeps K₆.stays
  have D₆ : KtsDicts (outer.filterMap (·.frame)) g₆ := D.turn T₆
  exact wpAny_passesOwnAt hE (k h₆ g₆ (T0.trans T₆) F₆ Nl K₆ X₆ P₆ D₆)
end
end Mine
end

section
open PySem PySem.W PyProof.Rows
set_option Elab.async false
set_option maxRecDepth 100000
set_option maxHeartbeats 8000000
set_option pp.deepTerms false
set_option pp.deepTerms.threshold 8
set_option pp.proofs.threshold 0
set_option linter.unusedVariables false
namespace Mine
open PySem.Calls

theorem instE {h h₀ : Heap} {L C x : Addr} {news : List (Addr × Obj)} {vs : Array Value} {sl : Array (Option Value)} (N : News h₀ L h news) (h1 : (x, (⟨.ref C, none, .fields vs, sl⟩ : Obj)) ∈ news) : W.InstAt h x ⟨.ref C, none, .fields vs, sl⟩ C none :=
  ⟨(N _ h1).1, rfl, rfl, trivial⟩
local macro_rules | `(tactic| k_inst) => `(tactic| (refine' instE ?N ?h1; (case N => k_asm); (case h1 => k_mem)))
theorem new60 {w : World} {mean : ExcName → Option Value} {mg mb : Str → Option Value} (dp un : Nat) (gd : Option (List Code)) (cn : Str) (cs : Scope) (a : Addr) (ccd : Value) (cl : List (Str × Addr)) (outer : List Env) (A₀ : Around) (base h₀ : Heap) (L : Addr) (m : Str → Option Value) (news : List (Addr × Obj)) (s : Shared) (Q E : Value → Shared → Prop)
    (msg : Str) (tm : Tok) (v : Value)
    (B : Below A₀ base outer h₀) (F : Fr h₀ L s.heap m) (X : (hd.heap_39 w.params).In h₀) (N : News h₀ L s.heap news) (T : Top hd.view_39 (looseW hd.view_39 [Str.ofString "big_endian_int"]) mean mg mb h₀)
    (hk : cs.kind = .function) (hdp : dp + 10 < recursionLimit) (hun : un + 100 < cLine)
    (hret : ∀ (e : Addr) (ob : Obj) (h' : Heap) (tk' : Nat), Fr h₀ L h' m → News h₀ L h' ((e, ob) :: news) → (∀ p ∈ news, p.1 ≠ e) → ExcOb 60 ob → Q (.ref e) { s with heap := h', toks := tk' }) :
    wpAny (model PySem.Challenge.rw_it0023_01.row.prog w) (ktrTop dp un gd cn cs L a ccd cl outer) (call (.ref 60) [.str msg tm, v]) Q E s := by
  revert X; k_fill; intro X
  obtain ⟨h, g, d, t, os⟩ := s
  have XS := X.keeps F.keep
  k_dflt (refine' exc2_call PySem.F.excBase_Exception ?b1 ?b2 ?b3 XS ?hC ?hi ?hf (fun h' e hm => ?_); (case hC => exact XS _ _ (by k_is)); (case b1 => decide +kernel); (case b2 => decide +kernel); (case b3 => decide +kernel); (case hi => k_is); (case hf => k_is))
  obtain ⟨hkp, hnew, tt, hee, htn, htt⟩ := hm
  have F1 : Fr h₀ L h' m := by
    obtain ⟨oL, es, ep, hL, r⟩ := F.ns
    exact ⟨⟨oL, es, ep, hkp _ _ hL, r⟩, fun b o q => hkp _ _ (F.keep b o q), F.above⟩
  have N1 : News h₀ L h' ((e, ⟨.ref 60, none, .fields #[.ref tt, .none, .none, .none, .bool false, .none], #[]⟩) :: news) := by
    intro p hp
    rcases List.mem_cons.mp hp with rfl | hp
    · refine ⟨hee, fun z => ?_, ?_⟩
      · obtain ⟨oL, es, ep, hL, r⟩ := F.ns
        have z' : e = L := z
        rw [← z', hnew] at hL
        cases hL
      · cases q : h₀.get? e with
        | none => rfl
        | some o => have := F.keep _ _ q; rw [hnew] at this; cases this
    · exact ⟨hkp _ _ (N p hp).1, (N p hp).2⟩
  have l1 : ∀ p ∈ news, p.1 ≠ e := fun p hp z => by
    have := (N p hp).1
    rw [z, hnew] at this
    cases this
  refine wpAny_call ?_
  k_dflt (refine' ks_code_super ?k1 ?k2 ?k3 ?k4 ?k5 ?kA ?kF ?kK ?k6 ?k7 ?k8 ?k9 ?kB ?_ ?c1 ?c2 ?c3 ?c4; (case kA => exact rfl); (case kF => exact rfl); (case kK => assumption); (case k1 => k_asm); (case k2 => k_asm); (case k3 => k_asm); (case k4 => k_asm); (case k5 => k_asm); (case k6 => k_is); (case k7 => k_is); (case k8 => ktr_room); (case k9 => exact BindsTo.of_eq rfl); (case kB => exact locs rfl); (case c1 => decide); (case c2 => exact rfl); (case c3 => exact rfl); (case c4 => exact rfl))
  intro g' L' h'' FG' F' N' B' X' T' l1'
  refine ks_wpAt_execs_cons ?_
  refine ks_wpAt_Expr_any ?_
  refine ks_wpAt_MethodCall ?_
  k_dflt (refine ks_node (by k_asm) (by k_asm) (by k_asm) (by k_asm) (by k_is) (by rfl) (by rfl) (by k_inst) (by k_is) (by rfl) (by first | rfl | decide +kernel) (by k_is) (by k_is) (by k_is) (by k_is) (by decide) (by rfl) (by rfl) (by rfl) (by rfl) (by decide +kernel) (by first | boot_by_name | rfl | kernel_rfl) ?_)
  intro hsA soA FA NA lA
  k_dflt (refine' super_K ?k1 ?k2 ?k3 ?k4 ?k5 ?k6 ?k7 ?k8 ?_; (case k1 => k_asm); (case k2 => k_asm); (case k3 => k_asm); (case k4 => k_mem); (case k5 => k_inst); (case k6 => k_is); (case k7 => ks_is); (case k8 => k_is))
  intro hqA qA FB NB lB
  refine callWith_mw (y := e) ?_
  k_steps
  · exact (NB _ (.head _)).1
  have XB := X'.keeps FB.keep
  have NB2 : News g' L' qA ((e, ⟨.ref 60, none, .fields #[.ref tt, .none, .none, .none, .bool false, .none], #[]⟩) :: news) := fun p hp => NB p (.tail _ (.tail _ hp))
  have heB := (NB2 _ (.head _)).1
  have hmB := (NB _ (.head _)).1
  k_dflt (refine' ei_call (C := 60) (e := e) (tp := tt) (dd := none) (sl := #[]) ?hC hmB heB (fun h3 hk3 he3 => ?_); (case hC => exact XB _ _ (by k_is)))
  obtain ⟨FC, NC⟩ := upd_e FB NB2 l1 hk3 he3
  k_steps
  have XC := X'.keeps FC.keep
  have heC := (NC _ (.head _)).1
  k_dflt (refine' set_exc (C := 60) (P := 38) XC heC ?hs ?hc ?hm ?ht ?hd (fun h4 dx hk4 he4 => ?_); (case hs => k_is); (case hc => k_is); (case hm => rfl); (case ht => k_is); (case hd => rfl))
  obtain ⟨FD, ND⟩ := upd_e FC NC l1 hk4 he4
  k_steps
  exact hret e _ h4 _ (by assumption) (by assumption) l1 ⟨_, _, _, rfl⟩
theorem new81 {w : World} {mean : ExcName → Option Value} {mg mb : Str → Option Value} (dp un : Nat) (gd : Option (List Code)) (cn : Str) (cs : Scope) (a : Addr) (ccd : Value) (cl : List (Str × Addr)) (outer : List Env) (A₀ : Around) (base h₀ : Heap) (L : Addr) (m : Str → Option Value) (news : List (Addr × Obj)) (s : Shared) (Q E : Value → Shared → Prop)
    (msg : Str) (tm : Tok) (v : Value)
    (B : Below A₀ base outer h₀) (F : Fr h₀ L s.heap m) (X : (hd.heap_39 w.params).In h₀) (N : News h₀ L s.heap news) (T : Top hd.view_39 (looseW hd.view_39 [Str.ofString "big_endian_int"]) mean mg mb h₀)
    (hk : cs.kind = .function) (hdp : dp + 10 < recursionLimit) (hun : un + 100 < cLine)
    (hret : ∀ (e : Addr) (ob : Obj) (h' : Heap) (tk' : Nat), Fr h₀ L h' m → News h₀ L h' ((e, ob) :: news) → (∀ p ∈ news, p.1 ≠ e) → ExcOb 81 ob → Q (.ref e) { s with heap := h', toks := tk' }) :
    wpAny (model PySem.Challenge.rw_it0023_01.row.prog w) (ktrTop dp un gd cn cs L a ccd cl outer) (call (.ref 81) [.str msg tm, v]) Q E s := by
  revert X; k_fill; intro X
  obtain ⟨h, g, d, t, os⟩ := s
  have XS := X.keeps F.keep
  k_dflt (refine' exc2_call PySem.F.excBase_Exception ?b1 ?b2 ?b3 XS ?hC ?hi ?hf (fun h' e hm => ?_); (case hC => exact XS _ _ (by k_is)); (case b1 => decide +kernel); (case b2 => decide +kernel); (case b3 => decide +kernel); (case hi => k_is); (case hf => k_is))
  obtain ⟨hkp, hnew, tt, hee, htn, htt⟩ := hm
  have F1 : Fr h₀ L h' m := by
    obtain ⟨oL, es, ep, hL, r⟩ := F.ns
    exact ⟨⟨oL, es, ep, hkp _ _ hL, r⟩, fun b o q => hkp _ _ (F.keep b o q), F.above⟩
  have N1 : News h₀ L h' ((e, ⟨.ref 81, none, .fields #[.ref tt, .none, .none, .none, .bool false, .none], #[]⟩) :: news) := by
    intro p hp
    rcases List.mem_cons.mp hp with rfl | hp
    · refine ⟨hee, fun z => ?_, ?_⟩
      · obtain ⟨oL, es, ep, hL, r⟩ := F.ns
        have z' : e = L := z
        rw [← z', hnew] at hL
        cases hL
      · cases q : h₀.get? e with
        | none => rfl
        | some o => have := F.keep _ _ q; rw [hnew] at this; cases this
    · exact ⟨hkp _ _ (N p hp).1, (N p hp).2⟩
  have l1 : ∀ p ∈ news, p.1 ≠ e := fun p hp z => by
    have := (N p hp).1
    rw [z, hnew] at this
    cases this
  refine wpAny_call ?_
  k_dflt (refine' ks_code_super ?k1 ?k2 ?k3 ?k4 ?k5 ?kA ?kF ?kK ?k6 ?k7 ?k8 ?k9 ?kB ?_ ?c1 ?c2 ?c3 ?c4; (case kA => exact rfl); (case kF => exact rfl); (case kK => assumption); (case k1 => k_asm); (case k2 => k_asm); (case k3 => k_asm); (case k4 => k_asm); (case k5 => k_asm); (case k6 => k_is); (case k7 => k_is); (case k8 => ktr_room); (case k9 => exact BindsTo.of_eq rfl); (case kB => exact locs rfl); (case c1 => decide); (case c2 => exact rfl); (case c3 => exact rfl); (case c4 => exact rfl))
  intro g' L' h'' FG' F' N' B' X' T' l1'
  refine ks_wpAt_execs_cons ?_
  refine ks_wpAt_Expr_any ?_
  refine ks_wpAt_MethodCall ?_
  k_dflt (refine ks_node (by k_asm) (by k_asm) (by k_asm) (by k_asm) (by k_is) (by rfl) (by rfl) (by k_inst) (by k_is) (by rfl) (by first | rfl | decide +kernel) (by k_is) (by k_is) (by k_is) (by k_is) (by decide) (by rfl) (by rfl) (by rfl) (by rfl) (by decide +kernel) (by first | boot_by_name | rfl | kernel_rfl) ?_)
  intro hsA soA FA NA lA
  k_dflt (refine' super_K ?k1 ?k2 ?k3 ?k4 ?k5 ?k6 ?k7 ?k8 ?_; (case k1 => k_asm); (case k2 => k_asm); (case k3 => k_asm); (case k4 => k_mem); (case k5 => k_inst); (case k6 => k_is); (case k7 => ks_is); (case k8 => k_is))
  intro hqA qA FB NB lB
  refine callWith_mw (y := e) ?_
  k_steps
  · exact (NB _ (.head _)).1
  have XB := X'.keeps FB.keep
  have NB2 : News g' L' qA ((e, ⟨.ref 81, none, .fields #[.ref tt, .none, .none, .none, .bool false, .none], #[]⟩) :: news) := fun p hp => NB p (.tail _ (.tail _ hp))
  have heB := (NB2 _ (.head _)).1
  have hmB := (NB _ (.head _)).1
  k_dflt (refine' ei_call (C := 81) (e := e) (tp := tt) (dd := none) (sl := #[]) ?hC hmB heB (fun h3 hk3 he3 => ?_); (case hC => exact XB _ _ (by k_is)))
  obtain ⟨FC, NC⟩ := upd_e FB NB2 l1 hk3 he3
  k_steps
  have XC := X'.keeps FC.keep
  have heC := (NC _ (.head _)).1
  k_dflt (refine' set_exc (C := 81) (P := 38) XC heC ?hs ?hc ?hm ?ht ?hd (fun h4 dx hk4 he4 => ?_); (case hs => k_is); (case hc => k_is); (case hm => rfl); (case ht => k_is); (case hd => rfl))
  obtain ⟨FD, ND⟩ := upd_e FC NC l1 hk4 he4
  k_steps
  exact hret e _ h4 _ (by assumption) (by assumption) l1 ⟨_, _, _, rfl⟩
end Mine
end

section
open PySem PySem.W PySem.Calls PyProof.Rows
set_option Elab.async false
set_option maxRecDepth 100000
set_option maxHeartbeats 4000000
namespace Mine
theorem len41 : ∀ n : Nat, n ≤ 41 → (Str.ofString (toString (n : Int))).length ≤ 10 := by decide +kernel
theorem log41 {n : Nat} (h : n ≤ 41) : ((n : Int).natAbs).log2 < 1920 := by
  rw [Int.natAbs_natCast]
  exact Nat.lt_of_le_of_lt (Nat.log2_le_self n) (by omega)
theorem ff41 {prog : Program} {w : World} {A : Around} {E : Value → Shared → Prop} {s : Shared} {n : Nat} {t : Tok} {Q : Value → Shared → Prop} (hn : n ≤ 41)
    (h : ∀ S : Str, S.length ≤ 10 → Q (.str S (s.toks + 1)) { s with toks := s.toks + 1 + 1 }) : wpAny (model prog w) A (formatField (.int (n : Int) t) Str.empty) Q E s :=
  formatField_int_small (log41 hn) (h _ (len41 n hn))
end Mine
namespace Mine
theorem bz (k : Int) (j : Nat) (h : k.toNat = j) : KBw.bInts (List.replicate k.toNat [(0 : UInt8)]).flatten.toArray = List.replicate j 0 := by
  rw [h]
  show ((List.replicate j [(0 : UInt8)]).flatten.toArray.toList.map fun c => ((c.toNat : Nat) : Int)) = _
  rw [List.toList_toArray, List.flatten_replicate_singleton, List.map_replicate]
  rfl
end Mine
namespace Mine
theorem mx (n l : Nat) : (if (n : Int) - (l : Int) > 0 then (n : Int) - (l : Int) else 0).toNat = n - l := by split <;> omega
end Mine
end

section
open PySem PySem.W PyProof.Rows
set_option Elab.async false
namespace Mine
theorem clip0 (n : Nat) : clipAt n (0 : Int) = 0 := by have := clipAt_nat n 0; simpa using this
theorem clip1 (n : Nat) : clipAt n (1 : Int) = min 1 n := by have := clipAt_nat n 1; simpa using this
theorem slice_head {p : Array UInt8} {ks : List Int} (h : KBw.bInts p = List.take (clipAt ks.length 1 - clipAt ks.length 0) (List.drop (clipAt ks.length 0) ks)) : KBw.bInts p = ks.take 1 := by
  rw [h, clip0, clip1, List.drop_zero, Nat.sub_zero]
  cases ks with
  | nil => rfl
  | cons k r =>
    have e : min 1 (k :: r).length = 1 := by rw [List.length_cons]; omega
    rw [e]
theorem slice_is0 {p : Array UInt8} {ks : List Int} (h : KBw.bInts p = ks.take 1) : (p.toList == (#[(0 : UInt8)]).toList) = decide (ks.head? = some 0) := by
  have hp : p.toList.map (fun c => ((c.toNat : Nat) : Int)) = ks.take 1 := h
  cases ks with
  | nil =>
    have : p.toList = [] := by simpa using hp
    rw [this]; rfl
  | cons k r =>
    have h1 : ((k :: r).take 1) = [k] := rfl
    rw [h1] at hp
    cases hq : p.toList with
    | nil => rw [hq] at hp; cases hp
    | cons c cs =>
      rw [hq] at hp
      cases cs with
      | cons d ds => simp at hp
      | nil =>
        simp only [List.map_cons, List.map_nil, List.cons.injEq, and_true] at hp
        subst hp
        show ([c] == [(0 : UInt8)]) = _
        by_cases hc : c = 0
        · subst hc; rfl
        · have h2 : ([c] == [(0 : UInt8)]) = false := by simp [hc]
          rw [h2]
          symm
          rw [decide_eq_false_iff_not]
          intro hz
          apply hc
          have h3 : ((c.toNat : Nat) : Int) = 0 := Option.some.inj hz
          have h4 : c.toNat = 0 := by omega
          exact UInt8.toNat_inj.mp (by rw [h4]; rfl)
end Mine
end

section
open PySem PySem.W PyProof.Rows
set_option Elab.async false
set_option maxRecDepth 100000
set_option maxHeartbeats 8000000
set_option pp.deepTerms false
set_option pp.deepTerms.threshold 8
set_option pp.proofs.threshold 0
set_option linter.unusedVariables false
namespace Mine
open PySem.Calls
abbrev lawTop (dp un : Nat) (gd : Option (List Code)) (cn : Str) (cs : Scope) (L a : Addr) (ccd : Value) : Around := { handled := none, depth := dp, frames := some [envOf cn cs L a ccd], guards := gd, units := un }
def FormV (x : Int) (v : Value) : Prop := if x < 0 then v = .none else ∃ b t, v = .bytes b t ∧ KBw.bInts b = form x
local macro_rules | `(tactic| walk_at "exec Raise some none") => `(tactic| (k_here; k_dflt (refine raise_own (K := hd.heap_39) rfl ?_)))
theorem lf0 {w : World} {mean : ExcName → Option Value} {mg mb : Str → Option Value} (dp un : Nat) (gd : Option (List Code)) (cn : Str) (cs : Scope) (a : Addr) (ccd : Value) (A₀ : Around) (h₀ : Heap) (L : Addr) (m : Str → Option Value) (news : List (Addr × Obj)) (s : Shared) (Q E : Value → Shared → Prop)
    (x : Int) (t : Tok)
    (B : Below A₀ h₀ [] h₀) (F : Fr h₀ L s.heap m) (X : (hd.heap_39 w.params).In h₀) (N : News h₀ L s.heap news) (T : Top hd.view_39 (looseW hd.view_39 [Str.ofString "big_endian_int"]) mean mg mb h₀)
    (hk : cs.kind = .function) (hx1 : sz x ≤ 1000) (hdp : dp + 20 < recursionLimit) (hun : un + 200 < cLine)
    (hret : ∀ (v : Value) (h' : Heap) (tk' : Nat), FormV x v → Fr h₀ L h' m → News h₀ L h' news → Q v { s with heap := h', toks := tk' }) :
    wpAny (model PySem.Challenge.rw_it0023_01.row.prog w) (lawTop dp un gd cn cs L a ccd) (call (.ref 136) [.ref 121, .int x t]) Q E s := by
  revert X; k_fill; intro X
  refine wpAny_call ?_
  k_dflt (refine' code_defS0 ?k1 ?k2 ?k3 ?k4 ?k5 ?kA ?k6 ?k7 ?k8 ?k9 ?kB ?_ ?cK ?c2 ?c3 ?c4 ?c5; (case kA => exact rfl); (case k2 => k_asm); (case k1 => k_asm); (case k3 => k_asm); (case k4 => k_asm); (case k5 => k_asm); (case k6 => k_is); (case k7 => k_is); (case k8 => ktr_room); (case k9 => exact BindsTo.of_eq rfl); (case kB => exact locs rfl); (case cK => assumption); (case c2 => exact rfl); (case c3 => exact rfl); (case c4 => exact rfl); (case c5 => decide); k_whole)
  intro g1 L1 h1 FG1 F1 N1 B1 X1 T1 D1
  try dsimp only
  k_steps
  refine wpAny_call ?_
  k_dflt (refine' code_def ?k1 ?k2 ?k3 ?k4 ?k5 ?kA ?kF ?kK ?k6 ?k7 ?k8 ?k9 ?kB ?_ ?c2 ?c3 ?c4 ?c5; (case kA => exact rfl); (case kF => exact rfl); (case kK => exact rfl); (case k1 => k_asm); (case k2 => k_asm); (case k3 => k_asm); (case k4 => k_asm); (case k5 => k_asm); (case k6 => k_is); (case k7 => k_is); (case k8 => ktr_room); (case k9 => exact BindsTo.of_eq rfl); (case c5 => decide); (case kB => exact locs rfl); (case c2 => exact rfl); (case c3 => exact rfl); (case c4 => exact rfl); k_whole; intro g2 L2 h2 FG2 F2 N2 B2 X2 T2; (try dsimp only); (try k_fold))
  k_steps
  · refine new60 (dp + 2) (un + 6) gd _ _ _ _ [] _ _ _ _ _ _ _ _ _ _ _ _ _ (by k_asm) (by k_asm) (by k_asm) (by k_asm) (by k_asm) rfl (by omega) (by omega) (fun e ob h3 tk3 F3 N3 n3 o3 => ?_)
    refine ⟨e, ob, 60, rfl, (N3 _ (.head _)).1, o3, X2.keeps F3.keep, by kts_isx, ?_⟩
    refine leave_own B2 F3 N3 n3 o3 (fun h4 R4 U4 => ?_)
    refine caught_own (KF := hd.heap_39 w.params) R4 FG2 B1 U4 X T D1 KtsTurn.refl (by k_is) (by kts_isx) (fun h5 g5 T5 F5 N5 B5 X5 P5 D5 => ?_)
    k_steps
    exact hret .none _ _ (by unfold FormV; rw [if_pos (by assumption)]) (by assumption) (by assumption)
  · have hx0 : x = 0 := by assumption
    subst hx0
    exact hret _ _ _ (by unfold FormV; rw [if_neg (by decide)]; exact ⟨#[], _, rfl, by rw [form_zero]; rfl⟩) (by k_asm) (by k_asm)
  · have hn0 : ¬ x < 0 := by assumption
    have hn1 : x ≠ 0 := by assumption
    refine itb (dp + 2) (un + 6) gd _ _ _ _ [] _ _ _ _ _ _ _ _ _ _ _ _ (by k_asm) (by k_asm) (by k_asm) (by k_asm) (by k_asm) rfl (by omega) hx1 (by omega) (by omega) (fun b t3 h3 tk3 hb F3 N3 => ?_)
    k_steps
    exact hret _ _ _ (by unfold FormV; rw [if_neg hn0]; exact ⟨b, _, rfl, hb⟩) (by k_asm) (by k_asm)
end Mine
end

section
open PySem PySem.W PyProof.Rows
set_option Elab.async false
set_option maxRecDepth 100000
set_option maxHeartbeats 8000000
set_option pp.deepTerms false
set_option pp.deepTerms.threshold 8
set_option pp.proofs.threshold 0
set_option linter.unusedVariables false
namespace Mine
open PySem.Calls
local macro_rules | `(tactic| walk_at "exec Raise some none") => `(tactic| (k_here; k_dflt (refine raise_own (K := hd.heap_39) rfl ?_)))
local macro_rules | `(tactic| walk_at "formatField int") => `(tactic| (k_here; (refine ff41 (by assumption) (fun S hS => ?_))))
def fform (n : Nat) (x : Int) : List Int := List.replicate (n - (form x).length) 0 ++ form x
def FormF (n : Nat) (x : Int) (v : Value) : Prop := if x < 0 ∨ (256 : Int) ^ n ≤ x then v = .none else ∃ b t, v = .bytes b t ∧ KBw.bInts b = fform n x
theorem lf1 {w : World} {mean : ExcName → Option Value} {mg mb : Str → Option Value} (dp un : Nat) (gd : Option (List Code)) (cn : Str) (cs : Scope) (a : Addr) (ccd : Value) (A₀ : Around) (h₀ : Heap) (L : Addr) (m : Str → Option Value) (news : List (Addr × Obj)) (s : Shared) (Q E : Value → Shared → Prop)
    (y dy : Addr) (hh : Int) (tl tn : Tok) (n : Nat) (x : Int) (t : Tok)
    (B : Below A₀ h₀ [] h₀) (F : Fr h₀ L s.heap m) (X : (hd.heap_39 w.params).In h₀) (N : News h₀ L s.heap news) (T : Top hd.view_39 (looseW hd.view_39 [Str.ofString "big_endian_int"]) mean mg mb h₀)
    (hy : (y, instObj 115 dy) ∈ news) (hdy : (dy, dictOf [⟨hh, .str (Str.ofString "length") tl, .int (n : Int) tn⟩] 1) ∈ news) (hn : n ≤ 41)
    (hk : cs.kind = .function) (hx1 : sz x ≤ 1000) (hdp : dp + 20 < recursionLimit) (hun : un + 200 < cLine)
    (hret : ∀ (v : Value) (h' : Heap) (tk' : Nat), FormF n x v → Fr h₀ L h' m → News h₀ L h' news → Q v { s with heap := h', toks := tk' }) :
    wpAny (model PySem.Challenge.rw_it0023_01.row.prog w) (lawTop dp un gd cn cs L a ccd) (call (.ref 136) [.ref y, .int x t]) Q E s := by
  revert X; k_fill; intro X
  refine wpAny_call ?_
  k_dflt (refine' code_defS0 ?k1 ?k2 ?k3 ?k4 ?k5 ?kA ?k6 ?k7 ?k8 ?k9 ?kB ?_ ?cK ?c2 ?c3 ?c4 ?c5; (case kA => exact rfl); (case k2 => k_asm); (case k1 => k_asm); (case k3 => k_asm); (case k4 => k_asm); (case k5 => k_asm); (case k6 => k_is); (case k7 => k_is); (case k8 => ktr_room); (case k9 => exact BindsTo.of_eq rfl); (case kB => exact locs rfl); (case cK => assumption); (case c2 => exact rfl); (case c3 => exact rfl); (case c4 => exact rfl); (case c5 => decide); k_whole)
  intro g1 L1 h1 FG1 F1 N1 B1 X1 T1 D1
  try dsimp only
  k_steps
  refine wpAny_call ?_
  k_dflt (refine' code_def ?k1 ?k2 ?k3 ?k4 ?k5 ?kA ?kF ?kK ?k6 ?k7 ?k8 ?k9 ?kB ?_ ?c2 ?c3 ?c4 ?c5; (case kA => exact rfl); (case kF => exact rfl); (case kK => exact rfl); (case k1 => k_asm); (case k2 => k_asm); (case k3 => k_asm); (case k4 => k_asm); (case k5 => k_asm); (case k6 => k_is); (case k7 => k_is); (case k8 => ktr_room); (case k9 => exact BindsTo.of_eq rfl); (case c5 => decide); (case kB => exact locs rfl); (case c2 => exact rfl); (case c3 => exact rfl); (case c4 => exact rfl); k_whole; intro g2 L2 h2 FG2 F2 N2 B2 X2 T2; (try dsimp only); (try k_fold))
  k_steps
  · refine new60 (dp + 2) (un + 6) gd _ _ _ _ [] _ _ _ _ _ _ _ _ _ _ _ _ _ (by k_asm) (by k_asm) (by k_asm) (by k_asm) (by k_asm) rfl (by omega) (by omega) (fun e ob h3 tk3 F3 N3 n3 o3 => ?_)
    refine ⟨e, ob, 60, rfl, (N3 _ (.head _)).1, o3, X2.keeps F3.keep, by kts_isx, ?_⟩
    refine leave_own B2 F3 N3 n3 o3 (fun h4 R4 U4 => ?_)
    refine caught_own (KF := hd.heap_39 w.params) R4 FG2 B1 U4 X T D1 KtsTurn.refl (by k_is) (by kts_isx) (fun h5 g5 T5 F5 N5 B5 X5 P5 D5 => ?_)
    k_steps
    have hge : (256 : Int) ^ n ≤ x := by assumption
    exact hret .none _ _ (by unfold FormF; rw [if_pos (.inr hge)]) (by assumption) (by assumption)
  · refine new60 (dp + 2) (un + 6) gd _ _ _ _ [] _ _ _ _ _ _ _ _ _ _ _ _ _ (by k_asm) (by k_asm) (by k_asm) (by k_asm) (by k_asm) rfl (by omega) (by omega) (fun e ob h3 tk3 F3 N3 n3 o3 => ?_)
    refine ⟨e, ob, 60, rfl, (N3 _ (.head _)).1, o3, X2.keeps F3.keep, by kts_isx, ?_⟩
    refine leave_own B2 F3 N3 n3 o3 (fun h4 R4 U4 => ?_)
    refine caught_own (KF := hd.heap_39 w.params) R4 FG2 B1 U4 X T D1 KtsTurn.refl (by k_is) (by kts_isx) (fun h5 g5 T5 F5 N5 B5 X5 P5 D5 => ?_)
    k_steps
    exact hret .none _ _ (by unfold FormF; rw [if_pos (.inl (by assumption))]) (by assumption) (by assumption)
  · have hx0 : x = 0 := by assumption
    subst hx0
    refine KBa.add_K (ks := List.replicate n 0) (ls := []) (bz _ n (mx n 0)) rfl (by simp; omega) (fun t6 k6 hb6 => ?_)
    k_steps
    have hp : ¬ ((0 : Int) < 0 ∨ (256 : Int) ^ n ≤ 0) := by
      have := Int.pow_pos (n := 256) (m := n) (by decide)
      omega
    exact hret _ _ _ (by unfold FormF; rw [if_neg hp]; exact ⟨_, _, rfl, by rw [hb6]; unfold fform; rw [form_zero]; simp⟩) (by k_asm) (by k_asm)
  · refine itb (dp + 2) (un + 6) gd _ _ _ _ [] _ _ _ _ _ _ _ _ _ _ _ _ (by k_asm) (by k_asm) (by k_asm) (by k_asm) (by k_asm) rfl (by omega) hx1 (by omega) (by omega) (fun b t3 h3 tk3 hb F3 N3 => ?_)
    have hn0 : ¬ x < 0 := by assumption
    have hlt : ¬ (256 : Int) ^ n ≤ x := by assumption
    have hl : (form x).length ≤ n := by
      rw [form_length]
      exact (lt_pow_iff (by omega) n).mp (by omega)
    have hl41 : (form x).length ≤ 41 := by omega
    k_steps
    refine KBa.add_K (ks := List.replicate (n - (form x).length) 0) (ls := form x) (bz _ _ (mx n (form x).length)) hb (by simp; omega) (fun t6 k6 hb6 => ?_)
    k_steps
    have hp : ¬ (x < 0 ∨ (256 : Int) ^ n ≤ x) := fun h => h.elim hn0 hlt
    exact hret _ _ _ (by unfold FormF; rw [if_neg hp]; exact ⟨_, _, rfl, hb6⟩) (by k_asm) (by k_asm)
end Mine
end

section
open PySem PySem.W PyProof.Rows
set_option Elab.async false
set_option maxRecDepth 100000
set_option maxHeartbeats 8000000
set_option pp.deepTerms false
set_option pp.deepTerms.threshold 8
set_option pp.proofs.threshold 0
set_option linter.unusedVariables false
namespace Mine
open PySem.Calls
local macro_rules | `(tactic| walk_at "exec Raise some none") => `(tactic| (k_here; k_dflt (refine raise_own (K := hd.heap_39) rfl ?_)))
theorem lfT {w : World} {mean : ExcName → Option Value} {mg mb : Str → Option Value} (dp un : Nat) (gd : Option (List Code)) (cn : Str) (cs : Scope) (a : Addr) (ccd : Value) (A₀ : Around) (h₀ : Heap) (L : Addr) (m : Str → Option Value) (news : List (Addr × Obj)) (s : Shared) (Q E : Value → Shared → Prop)
    (B : Below A₀ h₀ [] h₀) (F : Fr h₀ L s.heap m) (X : (hd.heap_39 w.params).In h₀) (N : News h₀ L s.heap news) (T : Top hd.view_39 (looseW hd.view_39 [Str.ofString "big_endian_int"]) mean mg mb h₀)
    (hk : cs.kind = .function) (hdp : dp + 20 < recursionLimit) (hun : un + 200 < cLine)
    (hret : ∀ (v : Value) (h' : Heap) (tk' : Nat), v = .none → Fr h₀ L h' m → News h₀ L h' news → Q v { s with heap := h', toks := tk' }) :
    wpAny (model PySem.Challenge.rw_it0023_01.row.prog w) (lawTop dp un gd cn cs L a ccd) (call (.ref 136) [.ref 121, .bool true]) Q E s := by
  revert X; k_fill; intro X
  refine wpAny_call ?_
  k_dflt (refine' code_defS0 ?k1 ?k2 ?k3 ?k4 ?k5 ?kA ?k6 ?k7 ?k8 ?k9 ?kB ?_ ?cK ?c2 ?c3 ?c4 ?c5; (case kA => exact rfl); (case k2 => k_asm); (case k1 => k_asm); (case k3 => k_asm); (case k4 => k_asm); (case k5 => k_asm); (case k6 => k_is); (case k7 => k_is); (case k8 => ktr_room); (case k9 => exact BindsTo.of_eq rfl); (case kB => exact locs rfl); (case cK => assumption); (case c2 => exact rfl); (case c3 => exact rfl); (case c4 => exact rfl); (case c5 => decide); k_whole)
  intro g1 L1 h1 FG1 F1 N1 B1 X1 T1 D1
  try dsimp only
  k_steps
  refine wpAny_call ?_
  k_dflt (refine' code_def ?k1 ?k2 ?k3 ?k4 ?k5 ?kA ?kF ?kK ?k6 ?k7 ?k8 ?k9 ?kB ?_ ?c2 ?c3 ?c4 ?c5; (case kA => exact rfl); (case kF => exact rfl); (case kK => exact rfl); (case k1 => k_asm); (case k2 => k_asm); (case k3 => k_asm); (case k4 => k_asm); (case k5 => k_asm); (case k6 => k_is); (case k7 => k_is); (case k8 => ktr_room); (case k9 => exact BindsTo.of_eq rfl); (case c5 => decide); (case kB => exact locs rfl); (case c2 => exact rfl); (case c3 => exact rfl); (case c4 => exact rfl); k_whole; intro g2 L2 h2 FG2 F2 N2 B2 X2 T2; (try dsimp only); (try k_fold))
  k_steps
  refine new60 (dp + 2) (un + 6) gd _ _ _ _ [] _ _ _ _ _ _ _ _ _ _ _ _ _ (by k_asm) (by k_asm) (by k_asm) (by k_asm) (by k_asm) rfl (by omega) (by omega) (fun e ob h3 tk3 F3 N3 n3 o3 => ?_)
  refine ⟨e, ob, 60, rfl, (N3 _ (.head _)).1, o3, X2.keeps F3.keep, by kts_isx, ?_⟩
  refine leave_own B2 F3 N3 n3 o3 (fun h4 R4 U4 => ?_)
  refine caught_own (KF := hd.heap_39 w.params) R4 FG2 B1 U4 X T D1 KtsTurn.refl (by k_is) (by kts_isx) (fun h5 g5 T5 F5 N5 B5 X5 P5 D5 => ?_)
  k_steps
  exact hret .none _ _ rfl (by assumption) (by assumption)
theorem lfB {w : World} {mean : ExcName → Option Value} {mg mb : Str → Option Value} (dp un : Nat) (gd : Option (List Code)) (cn : Str) (cs : Scope) (a : Addr) (ccd : Value) (A₀ : Around) (h₀ : Heap) (L : Addr) (m : Str → Option Value) (news : List (Addr × Obj)) (s : Shared) (Q E : Value → Shared → Prop)
    (y dy : Addr) (hh : Int) (tl tn : Tok) (n : Nat)
    (B : Below A₀ h₀ [] h₀) (F : Fr h₀ L s.heap m) (X : (hd.heap_39 w.params).In h₀) (N : News h₀ L s.heap news) (T : Top hd.view_39 (looseW hd.view_39 [Str.ofString "big_endian_int"]) mean mg mb h₀)
    (hy : (y, instObj 115 dy) ∈ news) (hdy : (dy, dictOf [⟨hh, .str (Str.ofString "length") tl, .int (n : Int) tn⟩] 1) ∈ news)
    (hk : cs.kind = .function) (hdp : dp + 20 < recursionLimit) (hun : un + 200 < cLine)
    (hret : ∀ (v : Value) (h' : Heap) (tk' : Nat), v = .none → Fr h₀ L h' m → News h₀ L h' news → Q v { s with heap := h', toks := tk' }) :
    wpAny (model PySem.Challenge.rw_it0023_01.row.prog w) (lawTop dp un gd cn cs L a ccd) (call (.ref 136) [.ref y, .bool false]) Q E s := by
  revert X; k_fill; intro X
  refine wpAny_call ?_
  k_dflt (refine' code_defS0 ?k1 ?k2 ?k3 ?k4 ?k5 ?kA ?k6 ?k7 ?k8 ?k9 ?kB ?_ ?cK ?c2 ?c3 ?c4 ?c5; (case kA => exact rfl); (case k2 => k_asm); (case k1 => k_asm); (case k3 => k_asm); (case k4 => k_asm); (case k5 => k_asm); (case k6 => k_is); (case k7 => k_is); (case k8 => ktr_room); (case k9 => exact BindsTo.of_eq rfl); (case kB => exact locs rfl); (case cK => assumption); (case c2 => exact rfl); (case c3 => exact rfl); (case c4 => exact rfl); (case c5 => decide); k_whole)
  intro g1 L1 h1 FG1 F1 N1 B1 X1 T1 D1
  try dsimp only
  k_steps
  refine wpAny_call ?_
  k_dflt (refine' code_def ?k1 ?k2 ?k3 ?k4 ?k5 ?kA ?kF ?kK ?k6 ?k7 ?k8 ?k9 ?kB ?_ ?c2 ?c3 ?c4 ?c5; (case kA => exact rfl); (case kF => exact rfl); (case kK => exact rfl); (case k1 => k_asm); (case k2 => k_asm); (case k3 => k_asm); (case k4 => k_asm); (case k5 => k_asm); (case k6 => k_is); (case k7 => k_is); (case k8 => ktr_room); (case k9 => exact BindsTo.of_eq rfl); (case c5 => decide); (case kB => exact locs rfl); (case c2 => exact rfl); (case c3 => exact rfl); (case c4 => exact rfl); k_whole; intro g2 L2 h2 FG2 F2 N2 B2 X2 T2; (try dsimp only); (try k_fold))
  k_steps
  refine new60 (dp + 2) (un + 6) gd _ _ _ _ [] _ _ _ _ _ _ _ _ _ _ _ _ _ (by k_asm) (by k_asm) (by k_asm) (by k_asm) (by k_asm) rfl (by omega) (by omega) (fun e ob h3 tk3 F3 N3 n3 o3 => ?_)
  refine ⟨e, ob, 60, rfl, (N3 _ (.head _)).1, o3, X2.keeps F3.keep, by kts_isx, ?_⟩
  refine leave_own B2 F3 N3 n3 o3 (fun h4 R4 U4 => ?_)
  refine caught_own (KF := hd.heap_39 w.params) R4 FG2 B1 U4 X T D1 KtsTurn.refl (by k_is) (by kts_isx) (fun h5 g5 T5 F5 N5 B5 X5 P5 D5 => ?_)
  k_steps
  exact hret .none _ _ rfl (by assumption) (by assumption)
end Mine
end

section
open PySem PySem.W PyProof.Rows
set_option Elab.async false
set_option maxRecDepth 100000
set_option maxHeartbeats 8000000
set_option pp.deepTerms false
set_option pp.deepTerms.threshold 8
set_option pp.proofs.threshold 0
set_option linter.unusedVariables false
namespace Mine
open PySem.Calls
local macro_rules | `(tactic| walk_at "exec Raise some none") => `(tactic| (k_here; k_dflt (refine raise_own (K := hd.heap_39) rfl ?_)))
def ValV (ks : List Int) (v : Value) : Prop := if ks.head? = some 0 then v = .none else ∃ t, v = .int (KFB.value ks) t
def ValF (n : Nat) (ks : List Int) (v : Value) : Prop := if ks.length ≠ n then v = .none else ∃ t, v = .int (KFB.value ks) t
theorem lv0 {w : World} {mean : ExcName → Option Value} {mg mb : Str → Option Value} (dp un : Nat) (gd : Option (List Code)) (cn : Str) (cs : Scope) (a : Addr) (ccd : Value) (A₀ : Around) (h₀ : Heap) (L : Addr) (m : Str → Option Value) (news : List (Addr × Obj)) (s : Shared) (Q E : Value → Shared → Prop)
    (b : Array UInt8) (ks : List Int) (t : Tok)
    (B : Below A₀ h₀ [] h₀) (F : Fr h₀ L s.heap m) (X : (hd.heap_39 w.params).In h₀) (N : News h₀ L s.heap news) (T : Top hd.view_39 (looseW hd.view_39 [Str.ofString "big_endian_int"]) mean mg mb h₀)
    (hk : cs.kind = .function) (hb : KBw.bInts b = ks) (hl : ks.length ≤ 50) (hdp : dp + 20 < recursionLimit) (hun : un + 200 < cLine)
    (hret : ∀ (v : Value) (h' : Heap) (tk' : Nat), ValV ks v → Fr h₀ L h' m → News h₀ L h' news → Q v { s with heap := h', toks := tk' }) :
    wpAny (model PySem.Challenge.rw_it0023_01.row.prog w) (lawTop dp un gd cn cs L a ccd) (call (.ref 143) [.ref 121, .bytes b t]) Q E s := by
  revert X; k_fill; intro X

  refine wpAny_call ?_
  k_dflt (refine' code_defS0 ?k1 ?k2 ?k3 ?k4 ?k5 ?kA ?k6 ?k7 ?k8 ?k9 ?kB ?_ ?cK ?c2 ?c3 ?c4 ?c5; (case kA => exact rfl); (case k2 => k_asm); (case k1 => k_asm); (case k3 => k_asm); (case k4 => k_asm); (case k5 => k_asm); (case k6 => k_is); (case k7 => k_is); (case k8 => ktr_room); (case k9 => exact BindsTo.of_eq rfl); (case kB => exact locs rfl); (case cK => assumption); (case c2 => exact rfl); (case c3 => exact rfl); (case c4 => exact rfl); (case c5 => decide); k_whole)
  intro g1 L1 h1 FG1 F1 N1 B1 X1 T1 D1
  try dsimp only
  k_steps
  refine wpAny_call ?_
  k_dflt (refine' code_def ?k1 ?k2 ?k3 ?k4 ?k5 ?kA ?kF ?kK ?k6 ?k7 ?k8 ?k9 ?kB ?_ ?c2 ?c3 ?c4 ?c5; (case kA => exact rfl); (case kF => exact rfl); (case kK => exact rfl); (case k1 => k_asm); (case k2 => k_asm); (case k3 => k_asm); (case k4 => k_asm); (case k5 => k_asm); (case k6 => k_is); (case k7 => k_is); (case k8 => ktr_room); (case k9 => exact BindsTo.of_eq rfl); (case c5 => decide); (case kB => exact locs rfl); (case c2 => exact rfl); (case c3 => exact rfl); (case c4 => exact rfl); k_whole; intro g2 L2 h2 FG2 F2 N2 B2 X2 T2; (try dsimp only); (try k_fold))
  k_steps
  · have hs := slice_is0 (slice_head (p := KBy.picked b (some 0) (some 1)) (ks := ks) (by assumption))
    have hh0 : ks.head? = some 0 := by
      have h9 : ((KBy.picked b (some 0) (some 1)).toList == (#[(0 : UInt8)]).toList) = true := by assumption
      rw [hs] at h9
      exact of_decide_eq_true h9
    refine new81 (dp + 2) (un + 6) gd _ _ _ _ [] _ _ _ _ _ _ _ _ _ _ _ _ _ (by k_asm) (by k_asm) (by k_asm) (by k_asm) (by k_asm) rfl (by omega) (by omega) (fun e ob h3 tk3 F3 N3 n3 o3 => ?_)
    refine ⟨e, ob, 81, rfl, (N3 _ (.head _)).1, o3, X2.keeps F3.keep, by kts_isx, ?_⟩
    refine leave_own B2 F3 N3 n3 o3 (fun h4 R4 U4 => ?_)
    refine caught_own (KF := hd.heap_39 w.params) R4 FG2 B1 U4 X T D1 KtsTurn.refl (by k_is) (by kts_isx) (fun h5 g5 T5 F5 N5 B5 X5 P5 D5 => ?_)
    k_steps
    exact hret .none _ _ (by unfold ValV; rw [if_pos hh0]) (by assumption) (by assumption)
  · have hs := slice_is0 (slice_head (p := KBy.picked b (some 0) (some 1)) (ks := ks) (by assumption))
    have hh0 : ¬ ks.head? = some 0 := by
      have h9 : ((KBy.picked b (some 0) (some 1)).toList == (#[(0 : UInt8)]).toList) = false := by assumption
      rw [hs] at h9
      exact of_decide_eq_false h9
    refine bti (dp + 2) (un + 6) gd _ _ _ _ [] _ _ _ _ _ _ _ _ _ _ _ _ _ (by k_asm) (by k_asm) (by k_asm) (by k_asm) (by k_asm) rfl hb (by omega) (by omega) (by omega) (fun t3 h3 tk3 F3 N3 => ?_)
    k_steps
    exact hret _ _ _ (by unfold ValV; rw [if_neg hh0]; exact ⟨_, rfl⟩) (by k_asm) (by k_asm)
  · have hk0 : ks = [] := by
      cases ks with
      | nil => rfl
      | cons k r => exfalso; have h9 : ¬ 0 < (((k :: r).length : Nat) : Int) := by assumption
                    rw [List.length_cons] at h9; omega
    subst hk0
    refine bti (dp + 2) (un + 6) gd _ _ _ _ [] _ _ _ _ _ _ _ _ _ _ (ks := [0]) _ _ (by k_asm) (by k_asm) (by k_asm) (by k_asm) (by k_asm) rfl rfl (by decide) (by omega) (by omega) (fun t3 h3 tk3 F3 N3 => ?_)
    k_steps
    exact hret _ _ _ (by unfold ValV; rw [if_neg (by simp)]; exact ⟨_, rfl⟩) (by k_asm) (by k_asm)
end Mine
end

section
open PySem PySem.W PyProof.Rows
set_option Elab.async false
set_option maxRecDepth 100000
set_option maxHeartbeats 8000000
set_option pp.deepTerms false
set_option pp.deepTerms.threshold 8
set_option pp.proofs.threshold 0
set_option linter.unusedVariables false
namespace Mine
open PySem.Calls
local macro_rules | `(tactic| walk_at "exec Raise some none") => `(tactic| (k_here; k_dflt (refine raise_own (K := hd.heap_39) rfl ?_)))
theorem lv1 {w : World} {mean : ExcName → Option Value} {mg mb : Str → Option Value} (dp un : Nat) (gd : Option (List Code)) (cn : Str) (cs : Scope) (a : Addr) (ccd : Value) (A₀ : Around) (h₀ : Heap) (L : Addr) (m : Str → Option Value) (news : List (Addr × Obj)) (s : Shared) (Q E : Value → Shared → Prop)
    (b : Array UInt8) (ks : List Int) (t : Tok)
    (y dy : Addr) (hh : Int) (tl tn : Tok) (n : Nat)
    (B : Below A₀ h₀ [] h₀) (F : Fr h₀ L s.heap m) (X : (hd.heap_39 w.params).In h₀) (N : News h₀ L s.heap news) (T : Top hd.view_39 (looseW hd.view_39 [Str.ofString "big_endian_int"]) mean mg mb h₀)
    (hy : (y, instObj 115 dy) ∈ news) (hdy : (dy, dictOf [⟨hh, .str (Str.ofString "length") tl, .int (n : Int) tn⟩] 1) ∈ news)
    (hk : cs.kind = .function) (hb : KBw.bInts b = ks) (hl : ks.length ≤ 50) (hdp : dp + 20 < recursionLimit) (hun : un + 200 < cLine)
    (hret : ∀ (v : Value) (h' : Heap) (tk' : Nat), ValF n ks v → Fr h₀ L h' m → News h₀ L h' news → Q v { s with heap := h', toks := tk' }) :
    wpAny (model PySem.Challenge.rw_it0023_01.row.prog w) (lawTop dp un gd cn cs L a ccd) (call (.ref 143) [.ref y, .bytes b t]) Q E s := by
  revert X; k_fill; intro X

  refine wpAny_call ?_
  k_dflt (refine' code_defS0 ?k1 ?k2 ?k3 ?k4 ?k5 ?kA ?k6 ?k7 ?k8 ?k9 ?kB ?_ ?cK ?c2 ?c3 ?c4 ?c5; (case kA => exact rfl); (case k2 => k_asm); (case k1 => k_asm); (case k3 => k_asm); (case k4 => k_asm); (case k5 => k_asm); (case k6 => k_is); (case k7 => k_is); (case k8 => ktr_room); (case k9 => exact BindsTo.of_eq rfl); (case kB => exact locs rfl); (case cK => assumption); (case c2 => exact rfl); (case c3 => exact rfl); (case c4 => exact rfl); (case c5 => decide); k_whole)
  intro g1 L1 h1 FG1 F1 N1 B1 X1 T1 D1
  try dsimp only
  k_steps
  refine wpAny_call ?_
  k_dflt (refine' code_def ?k1 ?k2 ?k3 ?k4 ?k5 ?kA ?kF ?kK ?k6 ?k7 ?k8 ?k9 ?kB ?_ ?c2 ?c3 ?c4 ?c5; (case kA => exact rfl); (case kF => exact rfl); (case kK => exact rfl); (case k1 => k_asm); (case k2 => k_asm); (case k3 => k_asm); (case k4 => k_asm); (case k5 => k_asm); (case k6 => k_is); (case k7 => k_is); (case k8 => ktr_room); (case k9 => exact BindsTo.of_eq rfl); (case c5 => decide); (case kB => exact locs rfl); (case c2 => exact rfl); (case c3 => exact rfl); (case c4 => exact rfl); k_whole; intro g2 L2 h2 FG2 F2 N2 B2 X2 T2; (try dsimp only); (try k_fold))
  k_steps
  · have hne : ¬ ks.length = n := by
      have h9 : (ks.length : Int) ≠ (n : Int) := by assumption
      omega
    refine new81 (dp + 2) (un + 6) gd _ _ _ _ [] _ _ _ _ _ _ _ _ _ _ _ _ _ (by k_asm) (by k_asm) (by k_asm) (by k_asm) (by k_asm) rfl (by omega) (by omega) (fun e ob h3 tk3 F3 N3 n3 o3 => ?_)
    refine ⟨e, ob, 81, rfl, (N3 _ (.head _)).1, o3, X2.keeps F3.keep, by kts_isx, ?_⟩
    refine leave_own B2 F3 N3 n3 o3 (fun h4 R4 U4 => ?_)
    refine caught_own (KF := hd.heap_39 w.params) R4 FG2 B1 U4 X T D1 KtsTurn.refl (by k_is) (by kts_isx) (fun h5 g5 T5 F5 N5 B5 X5 P5 D5 => ?_)
    k_steps
    exact hret .none _ _ (by unfold ValF; rw [if_pos hne]) (by assumption) (by assumption)
  · have hne : ¬ ks.length ≠ n := by
      have h9 : (ks.length : Int) = (n : Int) := by assumption
      omega
    refine bti (dp + 2) (un + 6) gd _ _ _ _ [] _ _ _ _ _ _ _ _ _ _ _ _ _ (by k_asm) (by k_asm) (by k_asm) (by k_asm) (by k_asm) rfl hb (by omega) (by omega) (by omega) (fun t3 h3 tk3 F3 N3 => ?_)
    k_steps
    exact hret _ _ _ (by unfold ValF; rw [if_neg hne]; exact ⟨_, rfl⟩) (by k_asm) (by k_asm)
  · have hne : ¬ ks.length ≠ n := by
      have h9 : (ks.length : Int) = (n : Int) := by assumption
      omega
    have hk0 : ks = [] := by
      cases ks with
      | nil => rfl
      | cons k r => exfalso; have h9 : ¬ 0 < (k :: r).length := by assumption
                    rw [List.length_cons] at h9; omega
    subst hk0
    refine bti (dp + 2) (un + 6) gd _ _ _ _ [] _ _ _ _ _ _ _ _ _ _ (ks := [0]) _ _ (by k_asm) (by k_asm) (by k_asm) (by k_asm) (by k_asm) rfl rfl (by decide) (by omega) (by omega) (fun t3 h3 tk3 F3 N3 => ?_)
    k_steps
    exact hret _ _ _ (by unfold ValF; rw [if_neg hne]; exact ⟨_, rfl⟩) (by k_asm) (by k_asm)
end Mine
end

section
open PySem PySem.W PyProof.Rows
set_option Elab.async false
set_option maxRecDepth 100000
set_option maxHeartbeats 8000000
set_option pp.deepTerms false
set_option pp.deepTerms.threshold 8
set_option pp.proofs.threshold 0
set_option linter.unusedVariables false
namespace Mine
open PySem.Calls
local macro_rules | `(tactic| walk_at "exec Raise some none") => `(tactic| (k_here; k_dflt (refine raise_own (K := hd.heap_39) rfl ?_)))
local macro_rules | `(tactic| walk_at "formatField int") => `(tactic| (k_here; (refine ff41 (by assumption) (fun S hS => ?_))))
theorem ser0 {w : World} {mean : ExcName → Option Value} {mg mb : Str → Option Value} (dp un : Nat) (gd : Option (List Code)) (cn : Str) (cs : Scope) (a : Addr) (ccd : Value) (cl : List (Str × Addr)) (outer : List Env) (A₀ : Around) (base h₀ : Heap) (L : Addr) (m : Str → Option Value) (news : List (Addr × Obj)) (s : Shared) (Q E : Value → Shared → Prop)
    (x : Int) (t : Tok)
    (B : Below A₀ base outer h₀) (F : Fr h₀ L s.heap m) (X : (hd.heap_39 w.params).In h₀) (N : News h₀ L s.heap news) (T : Top hd.view_39 (looseW hd.view_39 [Str.ofString "big_endian_int"]) mean mg mb h₀)
    (hk : cs.kind = .function) (hx0 : 0 ≤ x) (hx1 : sz x ≤ 1000) (hdp : dp + 10 < recursionLimit) (hun : un + 100 < cLine)
    (hret : ∀ (b : Array UInt8) (t : Tok) (h' : Heap) (tk' : Nat), KBw.bInts b = form x → Fr h₀ L h' m → News h₀ L h' news → Q (.bytes b t) { s with heap := h', toks := tk' }) :
    wpAny (model PySem.Challenge.rw_it0023_01.row.prog w) (ktrTop dp un gd cn cs L a ccd cl outer) (call (.ref 105) [.ref 121, .int x t]) Q E s := by
  revert X; k_fill; intro X
  refine wpAny_call ?_
  k_dflt cell_enter
  k_steps
  · have hx9 : x = 0 := by assumption
    subst hx9
    exact hret _ _ _ _ (by rw [form_zero]; rfl) (by k_asm) (by k_asm)
  · have hn1 : x ≠ 0 := by assumption
    refine itb (dp + 1) (un + 3) gd _ _ _ _ [] _ _ _ _ _ _ _ _ _ _ _ _ (by k_asm) (by k_asm) (by k_asm) (by k_asm) (by k_asm) rfl (by omega) hx1 (by omega) (by omega) (fun b t3 h3 tk3 hb F3 N3 => ?_)
    k_steps
    exact hret _ _ _ _ hb (by k_asm) (by k_asm)
theorem ser1 {w : World} {mean : ExcName → Option Value} {mg mb : Str → Option Value} (dp un : Nat) (gd : Option (List Code)) (cn : Str) (cs : Scope) (a : Addr) (ccd : Value) (cl : List (Str × Addr)) (outer : List Env) (A₀ : Around) (base h₀ : Heap) (L : Addr) (m : Str → Option Value) (news : List (Addr × Obj)) (s : Shared) (Q E : Value → Shared → Prop)
    (x : Int) (t : Tok)
    (y dy : Addr) (hh : Int) (tl tn : Tok) (n : Nat)
    (B : Below A₀ base outer h₀) (F : Fr h₀ L s.heap m) (X : (hd.heap_39 w.params).In h₀) (N : News h₀ L s.heap news) (T : Top hd.view_39 (looseW hd.view_39 [Str.ofString "big_endian_int"]) mean mg mb h₀)
    (hy : (y, instObj 115 dy) ∈ news) (hdy : (dy, dictOf [⟨hh, .str (Str.ofString "length") tl, .int (n : Int) tn⟩] 1) ∈ news) (hn : n ≤ 41)
    (hk : cs.kind = .function) (hx0 : 0 ≤ x) (hx1 : x < (256 : Int) ^ n) (hdp : dp + 10 < recursionLimit) (hun : un + 100 < cLine)
    (hret : ∀ (b : Array UInt8) (t : Tok) (h' : Heap) (tk' : Nat), KBw.bInts b = fform n x → Fr h₀ L h' m → News h₀ L h' news → Q (.bytes b t) { s with heap := h', toks := tk' }) :
    wpAny (model PySem.Challenge.rw_it0023_01.row.prog w) (ktrTop dp un gd cn cs L a ccd cl outer) (call (.ref 105) [.ref y, .int x t]) Q E s := by
  revert X; k_fill; intro X
  refine wpAny_call ?_
  k_dflt cell_enter
  k_steps
  · exfalso
    have h9 : (256 : Int) ^ n ≤ x := by assumption
    omega
  · have hx9 : x = 0 := by assumption
    subst hx9
    refine KBa.add_K (ks := List.replicate n 0) (ls := []) (bz _ n (mx n 0)) rfl (by simp; omega) (fun t6 k6 hb6 => ?_)
    k_steps
    exact hret _ _ _ _ (by rw [hb6]; unfold fform; rw [form_zero]; simp) (by k_asm) (by k_asm)
  · have hn1 : x ≠ 0 := by assumption
    have hl : (form x).length ≤ n := by
      rw [form_length]
      exact (lt_pow_iff hx0 n).mp hx1
    have hl41 : (form x).length ≤ 41 := by omega
    refine itb (dp + 1) (un + 3) gd _ _ _ _ [] _ _ _ _ _ _ _ _ _ _ _ _ (by k_asm) (by k_asm) (by k_asm) (by k_asm) (by k_asm) rfl (by omega) (by rw [form_length] at hl; omega) (by omega) (by omega) (fun b t3 h3 tk3 hb F3 N3 => ?_)
    k_steps
    refine KBa.add_K (ks := List.replicate (n - (form x).length) 0) (ls := form x) (bz _ _ (mx n (form x).length)) hb (by simp; omega) (fun t6 k6 hb6 => ?_)
    k_steps
    exact hret _ _ _ _ hb6 (by k_asm) (by k_asm)
theorem des0 {w : World} {mean : ExcName → Option Value} {mg mb : Str → Option Value} (dp un : Nat) (gd : Option (List Code)) (cn : Str) (cs : Scope) (a : Addr) (ccd : Value) (cl : List (Str × Addr)) (outer : List Env) (A₀ : Around) (base h₀ : Heap) (L : Addr) (m : Str → Option Value) (news : List (Addr × Obj)) (s : Shared) (Q E : Value → Shared → Prop)
    (b : Array UInt8) (ks : List Int) (t : Tok)
    (B : Below A₀ base outer h₀) (F : Fr h₀ L s.heap m) (X : (hd.heap_39 w.params).In h₀) (N : News h₀ L s.heap news) (T : Top hd.view_39 (looseW hd.view_39 [Str.ofString "big_endian_int"]) mean mg mb h₀)
    (hk : cs.kind = .function) (hb : KBw.bInts b = ks) (hl : ks.length ≤ 50) (h0 : ks.head? ≠ some 0) (hdp : dp + 10 < recursionLimit) (hun : un + 100 < cLine)
    (hret : ∀ (t : Tok) (h' : Heap) (tk' : Nat), Fr h₀ L h' m → News h₀ L h' news → Q (.int (KFB.value ks) t) { s with heap := h', toks := tk' }) :
    wpAny (model PySem.Challenge.rw_it0023_01.row.prog w) (ktrTop dp un gd cn cs L a ccd cl outer) (call (.ref 112) [.ref 121, .bytes b t]) Q E s := by
  revert X; k_fill; intro X
  refine wpAny_call ?_
  k_dflt cell_enter
  k_steps
  · exfalso
    have hs := slice_is0 (slice_head (p := KBy.picked b (some 0) (some 1)) (ks := ks) (by assumption))
    have h9 : ((KBy.picked b (some 0) (some 1)).toList == (#[(0 : UInt8)]).toList) = true := by assumption
    rw [hs] at h9
    exact h0 (of_decide_eq_true h9)
  · refine bti (dp + 1) (un + 3) gd _ _ _ _ [] _ _ _ _ _ _ _ _ _ _ _ _ _ (by k_asm) (by k_asm) (by k_asm) (by k_asm) (by k_asm) rfl hb (by omega) (by omega) (by omega) (fun t3 h3 tk3 F3 N3 => ?_)
    k_steps
    exact hret _ _ _ (by k_asm) (by k_asm)
  · have hk0 : ks = [] := by
      cases ks with
      | nil => rfl
      | cons k r => exfalso; have h9 : ¬ 0 < (((k :: r).length : Nat) : Int) := by assumption
                    rw [List.length_cons] at h9; omega
    subst hk0
    refine bti (dp + 1) (un + 3) gd _ _ _ _ [] _ _ _ _ _ _ _ _ _ _ (ks := [0]) _ _ (by k_asm) (by k_asm) (by k_asm) (by k_asm) (by k_asm) rfl rfl (by decide) (by omega) (by omega) (fun t3 h3 tk3 F3 N3 => ?_)
    k_steps
    exact hret _ _ _ (by k_asm) (by k_asm)
theorem des1 {w : World} {mean : ExcName → Option Value} {mg mb : Str → Option Value} (dp un : Nat) (gd : Option (List Code)) (cn : Str) (cs : Scope) (a : Addr) (ccd : Value) (cl : List (Str × Addr)) (outer : List Env) (A₀ : Around) (base h₀ : Heap) (L : Addr) (m : Str → Option Value) (news : List (Addr × Obj)) (s : Shared) (Q E : Value → Shared → Prop)
    (b : Array UInt8) (ks : List Int) (t : Tok)
    (y dy : Addr) (hh : Int) (tl tn : Tok) (n : Nat)
    (B : Below A₀ base outer h₀) (F : Fr h₀ L s.heap m) (X : (hd.heap_39 w.params).In h₀) (N : News h₀ L s.heap news) (T : Top hd.view_39 (looseW hd.view_39 [Str.ofString "big_endian_int"]) mean mg mb h₀)
    (hy : (y, instObj 115 dy) ∈ news) (hdy : (dy, dictOf [⟨hh, .str (Str.ofString "length") tl, .int (n : Int) tn⟩] 1) ∈ news) 
    (hk : cs.kind = .function) (hb : KBw.bInts b = ks) (hl : ks.length ≤ 50) (h0 : ks.length = n) (hdp : dp + 10 < recursionLimit) (hun : un + 100 < cLine)
    (hret : ∀ (t : Tok) (h' : Heap) (tk' : Nat), Fr h₀ L h' m → News h₀ L h' news → Q (.int (KFB.value ks) t) { s with heap := h', toks := tk' }) :
    wpAny (model PySem.Challenge.rw_it0023_01.row.prog w) (ktrTop dp un gd cn cs L a ccd cl outer) (call (.ref 112) [.ref y, .bytes b t]) Q E s := by
  revert X; k_fill; intro X
  refine wpAny_call ?_
  k_dflt cell_enter
  k_steps
  · exfalso
    have h9 : (ks.length : Int) ≠ (n : Int) := by assumption
    omega
  · refine bti (dp + 1) (un + 3) gd _ _ _ _ [] _ _ _ _ _ _ _ _ _ _ _ _ _ (by k_asm) (by k_asm) (by k_asm) (by k_asm) (by k_asm) rfl hb (by omega) (by omega) (by omega) (fun t3 h3 tk3 F3 N3 => ?_)
    k_steps
    exact hret _ _ _ (by k_asm) (by k_asm)
  · have hk0 : ks = [] := by
      cases ks with
      | nil => rfl
      | cons k r => exfalso; have h9 : ¬ 0 < (k :: r).length := by assumption
                    rw [List.length_cons] at h9; omega
    subst hk0
    refine bti (dp + 1) (un + 3) gd _ _ _ _ [] _ _ _ _ _ _ _ _ _ _ (ks := [0]) _ _ (by k_asm) (by k_asm) (by k_asm) (by k_asm) (by k_asm) rfl rfl (by decide) (by omega) (by omega) (fun t3 h3 tk3 F3 N3 => ?_)
    k_steps
    exact hret _ _ _ (by k_asm) (by k_asm)
end Mine
end

section
open PySem PySem.W PySem.Calls PyProof.Rows PyProof.V PySem.Spec
set_option Elab.async false
set_option maxRecDepth 100000
set_option maxHeartbeats 4000000
namespace Mine
section
variable {prog : Program} {w : World} {A : Around} {E : Value → Shared → Prop} {s : Shared} {env : Env} {h₀ : Heap} {x : Str} {body : List Stmt} {Q : Flow → Shared → Prop}
theorem range_inv {r : Addr} {n : Nat} {t₀ u₀ v₀ : Tok} {m₀ : Str → Option Value} {news : List (Addr × Obj)} (J : Nat → (Str → Option Value) → List (Addr × Obj) → Prop)
    (hh : A.handled = none) (hr : IsRange s.heap r 0 (n : Int) 1 t₀ u₀ v₀) (hn : n < 1000000000) (F : Fr h₀ env.locals s.heap m₀) (N : News h₀ env.locals s.heap news) (hj : J 0 m₀ news)
    (turn : ∀ i t m₁ news₁ h tk own, i < n → OwnOff own (news.map (·.1)) → J i m₁ news₁ → Fr h₀ env.locals h (fun y => if y = x then some (.int (i : Int) t) else m₁ y) → News h₀ env.locals h (news₁ ++ own) →
      wpAny (model prog w) A (execs body env) (InvPostN h₀ env.locals (J (i + 1)) own (news.map (·.1)) { s with heap := h, toks := tk } Q) E { s with heap := h, toks := tk })
    (done : ∀ m₁ news₁ h tk, J n m₁ news₁ → Fr h₀ env.locals h m₁ → News h₀ env.locals h news₁ → Q .next { s with heap := h, toks := tk }) :
    wpAny (model prog w) A (pyIter (.ref r)) (fun it s₂ => LoopAtV prog w A h₀ env x body Q E it s₂) E s := by
  have hsmall : Builtin.Range.small 0 (n : Int) 1 = true := small_one (by omega) (by omega) (by omega) (by omega)
  have hsz : Builtin.Range.rangeSize 0 (n : Int) 1 = (n : Int) := by rw [rangeSize_nat]; omega
  refine wpAny_pyIter_range hr hsmall ?_
  have W : Walks prog w A s.heap.objs.size [s.heap.objs.size] [s.heap.objs.size] n (fun i v => i < n ∧ ∃ t, v = .int (0 + (i : Int) * 1) t)
      (fun i h => IsRangeIter h s.heap.objs.size (0 + (i : Nat) * 1) ((n : Int) - (i : Nat)) 1) := (Walks.range hh _ 0 1 n).bound
  refine loop_invN J W ?_ ?_ ?_ ?_ (by show IsRangeIter _ _ _ _ _; rw [hsz]; simpa using Heap.get?_push_size _ rfl) (F.push _) (fun p hp => ⟨Heap.get?_push_of_some _ (N p hp).1, (N p hp).2⟩) hj ?_ done
  · intro hm
    exact absurd F.ns.lt ((List.mem_singleton.mp hm) ▸ Nat.lt_irrefl _)
  · intro b hb
    rw [List.mem_singleton.mp hb]
    exact next_is_new F
  · intro p hp hI
    exact absurd (Heap.lt_size (N p hp).1) ((List.mem_singleton.mp hI) ▸ Nat.lt_irrefl _)
  · intro p hp hI
    exact absurd (Heap.lt_size (N p hp).1) ((List.mem_singleton.mp hI) ▸ Nat.lt_irrefl _)
  · rintro i v m₁ nx h tk own hi ⟨_, t, rfl⟩ _ hoff hJ F₁ N₁
    have e1 : (0 : Int) + (i : Int) * 1 = (i : Int) := by omega
    rw [e1] at F₁
    exact turn i t m₁ nx h tk own hi hoff hJ F₁ N₁

def Post (h₀ : Heap) (L : Addr) (P : (Str → Option Value) → Prop) (led : List (Addr × Obj)) (s₁ : Shared) (Q : Flow → Shared → Prop) (f : Flow) (s₂ : Shared) : Prop :=
  match f with
  | .ret v => Q (.ret v) s₂
  | .brk => Q .next s₂
  | _ => ∃ h' tk m', s₂ = { s₁ with heap := h', toks := tk } ∧ Fr h₀ L h' m' ∧ News h₀ L h' led ∧ P m'
theorem post_inv {L : Addr} {P : (Str → Option Value) → Prop} {news own : List (Addr × Obj)} {s₁ : Shared} {f : Flow} {s₂ : Shared} (h : Post h₀ L P (news ++ own) s₁ Q f s₂) :
    InvPostN h₀ L (fun m nx => nx = news ∧ P m) own (news.map (·.1)) s₁ Q f s₂ := by
  have fin : (∃ h' tk m', s₂ = { s₁ with heap := h', toks := tk } ∧ Fr h₀ L h' m' ∧ News h₀ L h' (news ++ own) ∧ P m') → InvEndN h₀ L (fun m nx => nx = news ∧ P m) own (news.map (·.1)) s₁ s₂ := by
    rintro ⟨h', tk, m', rfl, F', N', hP⟩
    exact ⟨h', tk, m', _, news, rfl, F', N', fun p hp => List.mem_append_left _ hp, fun p hp => List.mem_append_right _ hp, rfl, rfl, hP⟩
  cases f with
  | ret v => exact h
  | brk => exact h
  | next => exact fin h
  | cont => exact fin h
theorem list_loop {l : Addr} {vs : List Value} {ns : List Int} {nn : Nat} {m₀ : Str → Option Value} {news : List (Addr × Obj)} (P : Nat → (Str → Option Value) → Prop)
    (hh : A.handled = none) (hl : (l, listOf vs.toArray nn) ∈ news) (hi : IntsAre vs ns) (F : Fr h₀ env.locals s.heap m₀) (N : News h₀ env.locals s.heap news) (hp : P 0 m₀)
    (turn : ∀ i n t m₁ h tk own, ns[i]? = some n → P i m₁ → Fr h₀ env.locals h (fun y => if y = x then some (.int n t) else m₁ y) → News h₀ env.locals h (news ++ own) →
      wpAny (model prog w) A (execs body env) (Post h₀ env.locals (P (i + 1)) (news ++ own) { s with heap := h, toks := tk } Q) E { s with heap := h, toks := tk })
    (done : ∀ m₁ h tk, P ns.length m₁ → Fr h₀ env.locals h m₁ → News h₀ env.locals h news → Q .next { s with heap := h, toks := tk }) :
    wpAny (model prog w) A (pyIter (.ref l)) (fun it s₂ => LoopAtV prog w A h₀ env x body Q E it s₂) E s := by
  refine iter_invNL (fun i m nx => nx = news ∧ P i m) hh hl hi F N ⟨rfl, hp⟩ ?_ ?_
  · rintro i n t m₁ nx h tk own hn _ _ _ ⟨rfl, hP⟩ F₁ N₁
    refine wpAny_mono (turn i n t m₁ h tk own hn hP F₁ N₁) (fun f s₂ p => ?_) fun _ _ e => e
    have q := post_inv p
    cases f with
    | ret v => exact q
    | brk => exact q
    | next =>
      obtain ⟨h', tk', m', news', nx', e, F', N', hn', ho', ha, hx, hP'⟩ := q
      exact ⟨h', tk', m', news', nx', e, F', N', hn', ho', ha, by rw [hx]; exact hl, hx, hP'⟩
    | cont =>
      obtain ⟨h', tk', m', news', nx', e, F', N', hn', ho', ha, hx, hP'⟩ := q
      exact ⟨h', tk', m', news', nx', e, F', N', hn', ho', ha, by rw [hx]; exact hl, hx, hP'⟩
  · rintro m₁ nx h tk _ ⟨rfl, hP⟩ F₁ N₁
    exact done m₁ h tk hP F₁ N₁
theorem range_loop {r : Addr} {n : Nat} {t₀ u₀ v₀ : Tok} {m₀ : Str → Option Value} {news : List (Addr × Obj)} (P : Nat → (Str → Option Value) → Prop)
    (hh : A.handled = none) (hr : IsRange s.heap r 0 (n : Int) 1 t₀ u₀ v₀) (hn : n < 1000000000) (F : Fr h₀ env.locals s.heap m₀) (N : News h₀ env.locals s.heap news) (hp : P 0 m₀)
    (turn : ∀ i t m₁ h tk own, i < n → P i m₁ → Fr h₀ env.locals h (fun y => if y = x then some (.int (i : Int) t) else m₁ y) → News h₀ env.locals h (news ++ own) →
      wpAny (model prog w) A (execs body env) (Post h₀ env.locals (P (i + 1)) (news ++ own) { s with heap := h, toks := tk } Q) E { s with heap := h, toks := tk })
    (done : ∀ m₁ h tk, P n m₁ → Fr h₀ env.locals h m₁ → News h₀ env.locals h news → Q .next { s with heap := h, toks := tk }) :
    wpAny (model prog w) A (pyIter (.ref r)) (fun it s₂ => LoopAtV prog w A h₀ env x body Q E it s₂) E s := by
  refine range_inv (fun i m nx => nx = news ∧ P i m) hh hr hn F N ⟨rfl, hp⟩ ?_ ?_
  · rintro i t m₁ nx h tk own hi _ ⟨rfl, hP⟩ F₁ N₁
    exact wpAny_mono (turn i t m₁ h tk own hi hP F₁ N₁) (fun f s₂ p => post_inv p) fun _ _ e => e
  · rintro m₁ nx h tk ⟨rfl, hP⟩ F₁ N₁
    exact done m₁ h tk hP F₁ N₁
theorem range_invM {r : Addr} {n : Nat} {t₀ u₀ v₀ : Tok} {m₀ : Str → Option Value} {news : List (Addr × Obj)} (J : (Str → Option Value) → Nat → (Str → Option Value) → List (Addr × Obj) → Prop)
    (hh : A.handled = none) (hr : IsRange s.heap r 0 (n : Int) 1 t₀ u₀ v₀) (hn : n < 1000000000) (F : Fr h₀ env.locals s.heap m₀) (N : News h₀ env.locals s.heap news) (hj : J m₀ 0 m₀ news)
    (turn : ∀ i t m₁ news₁ h tk own, i < n → OwnOff own (news.map (·.1)) → J m₀ i m₁ news₁ → Fr h₀ env.locals h (fun y => if y = x then some (.int (i : Int) t) else m₁ y) → News h₀ env.locals h (news₁ ++ own) →
      wpAny (model prog w) A (execs body env) (InvPostN h₀ env.locals (J m₀ (i + 1)) own (news.map (·.1)) { s with heap := h, toks := tk } Q) E { s with heap := h, toks := tk })
    (done : ∀ m₁ news₁ h tk, J m₀ n m₁ news₁ → Fr h₀ env.locals h m₁ → News h₀ env.locals h news₁ → Q .next { s with heap := h, toks := tk }) :
    wpAny (model prog w) A (pyIter (.ref r)) (fun it s₂ => LoopAtV prog w A h₀ env x body Q E it s₂) E s :=
  range_inv (J m₀) hh hr hn F N hj turn done
theorem list_loopM {l : Addr} {vs : List Value} {ns : List Int} {nn : Nat} {m₀ : Str → Option Value} {news : List (Addr × Obj)} (P : (Str → Option Value) → Nat → (Str → Option Value) → Prop)
    (hh : A.handled = none) (hl : (l, listOf vs.toArray nn) ∈ news) (hi : IntsAre vs ns) (F : Fr h₀ env.locals s.heap m₀) (N : News h₀ env.locals s.heap news) (hp : P m₀ 0 m₀)
    (turn : ∀ i n t m₁ h tk own, ns[i]? = some n → P m₀ i m₁ → Fr h₀ env.locals h (fun y => if y = x then some (.int n t) else m₁ y) → News h₀ env.locals h (news ++ own) →
      wpAny (model prog w) A (execs body env) (Post h₀ env.locals (P m₀ (i + 1)) (news ++ own) { s with heap := h, toks := tk } Q) E { s with heap := h, toks := tk })
    (done : ∀ m₁ h tk, P m₀ ns.length m₁ → Fr h₀ env.locals h m₁ → News h₀ env.locals h news → Q .next { s with heap := h, toks := tk }) :
    wpAny (model prog w) A (pyIter (.ref l)) (fun it s₂ => LoopAtV prog w A h₀ env x body Q E it s₂) E s :=
  list_loop (P m₀) hh hl hi F N hp turn done
theorem range_loopM {r : Addr} {n : Nat} {t₀ u₀ v₀ : Tok} {m₀ : Str → Option Value} {news : List (Addr × Obj)} (P : (Str → Option Value) → Nat → (Str → Option Value) → Prop)
    (hh : A.handled = none) (hr : IsRange s.heap r 0 (n : Int) 1 t₀ u₀ v₀) (hn : n < 1000000000) (F : Fr h₀ env.locals s.heap m₀) (N : News h₀ env.locals s.heap news) (hp : P m₀ 0 m₀)
    (turn : ∀ i t m₁ h tk own, i < n → P m₀ i m₁ → Fr h₀ env.locals h (fun y => if y = x then some (.int (i : Int) t) else m₁ y) → News h₀ env.locals h (news ++ own) →
      wpAny (model prog w) A (execs body env) (Post h₀ env.locals (P m₀ (i + 1)) (news ++ own) { s with heap := h, toks := tk } Q) E { s with heap := h, toks := tk })
    (done : ∀ m₁ h tk, P m₀ n m₁ → Fr h₀ env.locals h m₁ → News h₀ env.locals h news → Q .next { s with heap := h, toks := tk }) :
    wpAny (model prog w) A (pyIter (.ref r)) (fun it s₂ => LoopAtV prog w A h₀ env x body Q E it s₂) E s :=
  range_loop (P m₀) hh hr hn F N hp turn done
end
theorem news_t2 {h₀ : Heap} {L : Addr} {h : Heap} {a b : Addr × Obj} {l : List (Addr × Obj)} (N : News h₀ L h (a :: b :: l)) : News h₀ L h l := fun p hp => N p (List.Mem.tail _ (List.Mem.tail _ hp))
theorem ch1 {a : Str} {m₀ m : Str → Option Value} (h : ∀ y, y ≠ a → m y = m₀ y) : ∃ v, m = fun y => if y = a then v else m₀ y := by
  refine ⟨m a, funext fun y => ?_⟩
  by_cases e : y = a
  · subst e; rw [if_pos rfl]
  · rw [if_neg e]; exact h y e
theorem ch2 {a b : Str} {m₀ m : Str → Option Value} (h : ∀ y, y ≠ a → y ≠ b → m y = m₀ y) : ∃ v w, m = fun y => if y = a then v else if y = b then w else m₀ y := by
  refine ⟨m a, m b, funext fun y => ?_⟩
  by_cases e : y = a
  · subst e; rw [if_pos rfl]
  · rw [if_neg e]
    by_cases e2 : y = b
    · subst e2; rw [if_pos rfl]
    · rw [if_neg e2]; exact h y e e2
theorem ch3 {a b c : Str} {m₀ m : Str → Option Value} (h : ∀ y, y ≠ a → y ≠ b → y ≠ c → m y = m₀ y) : ∃ v w u, m = fun y => if y = a then v else if y = b then w else if y = c then u else m₀ y := by
  refine ⟨m a, m b, m c, funext fun y => ?_⟩
  by_cases e : y = a
  · subst e; rw [if_pos rfl]
  · rw [if_neg e]
    by_cases e2 : y = b
    · subst e2; rw [if_pos rfl]
    · rw [if_neg e2]
      by_cases e3 : y = c
      · subst e3; rw [if_pos rfl]
      · rw [if_neg e3]; exact h y e e2 e3
theorem ch4 {a b c d : Str} {m₀ m : Str → Option Value} (h : ∀ y, y ≠ a → y ≠ b → y ≠ c → y ≠ d → m y = m₀ y) : ∃ v w u z, m = fun y => if y = a then v else if y = b then w else if y = c then u else if y = d then z else m₀ y := by
  refine ⟨m a, m b, m c, m d, funext fun y => ?_⟩
  by_cases e : y = a
  · subst e; rw [if_pos rfl]
  · rw [if_neg e]
    by_cases e2 : y = b
    · subst e2; rw [if_pos rfl]
    · rw [if_neg e2]
      by_cases e3 : y = c
      · subst e3; rw [if_pos rfl]
      · rw [if_neg e3]
        by_cases e4 : y = d
        · subst e4; rw [if_pos rfl]
        · rw [if_neg e4]; exact h y e e2 e3 e4
end Mine
end

section
open PySem PySem.W PyProof.Rows
set_option Elab.async false
set_option maxRecDepth 100000
set_option maxHeartbeats 8000000
set_option pp.deepTerms false
set_option pp.deepTerms.threshold 8
set_option pp.proofs.threshold 0
set_option linter.unusedVariables false
namespace Mine
def Marked (p : Prop) : Prop := p
theorem stopAt {p : Prop} (h : Marked p) : p := h
local macro_rules | `(tactic| walk_at "pyIter ref") => `(tactic| (refine stopAt ?_))
local macro_rules | `(tactic| walk_at "call builtin:list.append") => `(tactic| (refine stopAt ?_))
theorem fm (a : Int) : a.fmod 256 = a % 256 := Int.fmod_eq_emod_of_nonneg a (by decide)
theorem fd (a : Int) : a.fdiv 256 = a / 256 := Int.fdiv_eq_ediv_of_nonneg a (by decide)
theorem little_snoc (n : Nat) (x : Int) : KTBy.little (n + 1) x = KTBy.little n x ++ [x / 256 ^ n % 256] := by
  rw [KTBy.little_eq, KTBy.little_eq, List.range_succ, List.map_append]; rfl
theorem div_succ (n : Nat) (x : Int) : x / 256 ^ n / 256 = x / 256 ^ (n + 1) := by
  rw [Int.ediv_ediv_of_nonneg (Int.pow_nonneg (by decide)), Int.pow_succ]
def LoP (x : Int) (pre row : List Int) (number : Int) : Prop := row = KTBy.little pre.length x ∧ number = x / 256 ^ pre.length
theorem lo_start (x : Int) : LoP x [] [] x := ⟨rfl, by simp⟩
theorem lo_turn {x k : Int} {pre row : List Int} {number : Int} (h : LoP x pre row number) : LoP x (pre ++ [k]) (row ++ [number.fmod 256]) (number.fdiv 256) := by
  obtain ⟨rfl, rfl⟩ := h
  have e : (pre ++ [k]).length = pre.length + 1 := by simp
  refine ⟨?_, ?_⟩
  · rw [e, little_snoc, fm]
  · rw [e, fd, div_succ]
theorem lo_turn2 {x k : Int} {pre row : List Int} {number : Int} (h : LoP x pre row number) (h2 : row.length = pre.length) : LoP x (pre ++ [k]) (row ++ [number.fmod 256]) (number.fdiv 256) ∧ (row ++ [number.fmod 256]).length = (pre ++ [k]).length :=
  ⟨lo_turn h, by simp [h2]⟩
theorem off_all {D : Addr} {o : Obj} {news own : List (Addr × Obj)} (h1 : ∀ p ∈ news, p.1 < D) (h2 : OwnOff own (((D, o) :: news).map (·.1))) : ∀ p ∈ news ++ own, p.1 ≠ D := by
  intro p hp
  rcases List.mem_append.mp hp with h | h
  · exact Nat.ne_of_lt (h1 p h)
  · exact h2 p h D (List.Mem.head _)
theorem little_in (n : Nat) (x : Int) : KBa.In (KTBy.little n x) := by
  intro k hk
  rw [KTBy.little_eq] at hk
  obtain ⟨i, _, rfl⟩ := List.mem_map.mp hk
  omega
def JLo (D : Addr) (news : List (Addr × Obj)) (x : Int) (m₀ : Str → Option Value) (i : Nat) (m : Str → Option Value) (nx : List (Addr × Obj)) : Prop :=
  ∃ us nn t ov, nx = (D, W.listOf us.toArray nn) :: news ∧ IntsAre us (KTBy.little i x) ∧ m = fun y => if y = Str.ofString "number" then some (.int (x / 256 ^ i) t) else if y = Str.ofString "k" then ov else m₀ y
theorem inv_end {h₀ : Heap} {L : Addr} {J : (Str → Option Value) → List (Addr × Obj) → Prop} {m' : Str → Option Value} {own nx : List (Addr × Obj)} {adr : List Addr} {s₁ : Shared} {h' : Heap} {tk : Nat} (F : Fr h₀ L h' m') (N : News h₀ L h' (nx ++ own))
    (hj : J m' nx) (ha : nx.map (·.1) = adr) : InvEndN h₀ L J own adr s₁ { s₁ with heap := h', toks := tk } :=
  InvEndN.intro F N hj ha (fun p hp => List.mem_append_left _ hp) (fun p hp => List.mem_append_right _ hp)
theorem jlo_turn {D : Addr} {news : List (Addr × Obj)} {x : Int} {m₀ mm : Str → Option Value} {i : Nat} {us : List Value} {nn : Nat} {t t' : Tok} (hus : IntsAre us (KTBy.little i x)) (hn : mm (Str.ofString "number") = some (.int ((x / 256 ^ i).fdiv 256) t))
    (hm : ∀ y, y ≠ Str.ofString "number" → y ≠ Str.ofString "k" → mm y = m₀ y) : JLo D news x m₀ (i + 1) mm ((D, W.listOf (us.toArray.push (.int ((x / 256 ^ i).fmod 256) t')) (nn + 1)) :: news) := by
  refine ⟨us ++ [.int ((x / 256 ^ i).fmod 256) t'], nn + 1, t, mm (Str.ofString "k"), by rw [List.push_toArray], ?_, ?_⟩
  · rw [little_snoc, fm]
    exact hus.append (.cons _ _ .nil)
  · funext y
    by_cases e1 : y = Str.ofString "number"
    · subst e1
      rw [if_pos rfl, hn, fd, div_succ]
    · rw [if_neg e1]
      by_cases e2 : y = Str.ofString "k"
      · subst e2
        rw [if_pos rfl]
      · rw [if_neg e2]
        exact hm y e1 e2
theorem lo {w : World} {mean : ExcName → Option Value} {mg mb : Str → Option Value} (dp un : Nat) (gd : Option (List Code)) (cn : Str) (cs : Scope) (a : Addr) (ccd : Value) (cl : List (Str × Addr)) (outer : List Env) (A₀ : Around) (base h₀ : Heap) (L : Addr) (m : Str → Option Value) (news : List (Addr × Obj)) (s : Shared) (Q E : Value → Shared → Prop)
    (x : Int) (t tn : Tok) (n : Nat)
    (B : Below A₀ base outer h₀) (F : Fr h₀ L s.heap m) (X : (hd.heap_39 w.params).In h₀) (N : News h₀ L s.heap news) (T : Top hd.view_39 (looseW hd.view_39 [Str.ofString "big_endian_int"]) mean mg mb h₀)
    (hk : cs.kind = .function) (hn : n ≤ 100000) (hdp : dp + 10 < recursionLimit) (hun : un + 100 < cLine)
    (hret : ∀ (b : Array UInt8) (t : Tok) (h' : Heap) (tk' : Nat), KBw.bInts b = KTBy.little n x → Fr h₀ L h' m → News h₀ L h' news → Q (.bytes b t) { s with heap := h', toks := tk' }) :
    wpAny (model PySem.Challenge.rw_it0023_01.row.prog w) (ktrTop dp un gd cn cs L a ccd cl outer) (call (.ref 129) [.int x t, .int (n : Int) tn]) Q E s := by
  revert X; k_fill; intro X
  refine wpAny_call ?_
  k_dflt cell_enter
  k_steps
  unfold Marked
  refine range_invM (JLo _ news x) rfl (by assumption) (by omega) (by k_asm) (by k_asm) ⟨[], 0, t, none, rfl, IntsAre.nil, ?_⟩ (fun i t1 m1 n1 h1 tk1 own hi hoff hJ F1 N1 => ?_) (fun m1 n1 h1 tk1 hJ F1 N1 => ?_)
  · funext y
    by_cases e1 : y = Str.ofString "number"
    · subst e1
      simp only [if_true, Int.pow_zero, Int.ediv_one]
      rfl
    · rw [if_neg e1]
      by_cases e2 : y = Str.ofString "k"
      · subst e2
        rfl
      · rw [if_neg e2]
  · obtain ⟨us, nn, t2, ov, rfl, hus, rfl⟩ := hJ
    have hlen : us.length = i := by rw [hus.length, KTBy.little_length]
    have hoff2 := off_all (by assumption) hoff
    k_steps
    unfold Marked
    refine append_K (by k_asm) (by k_asm) (Upd.head hoff2) (fun h3 F3 N3 => ?_) (by rw [List.size_toArray, hlen]; exact Nat.le_trans (Nat.le_of_lt (Nat.lt_of_lt_of_le hi hn)) (by rw [sizeLine_eq]; decide))
    k_steps
    exact inv_end (by k_asm) (nx := (_, W.listOf (us.toArray.push _) (nn + 1)) :: news) (by k_asm) (jlo_turn hus rfl (fun y e1 e2 => (if_neg e1).trans ((if_neg e2).trans ((if_neg e1).trans (if_neg e2))))) rfl
  · obtain ⟨us, nn, t2, ov, rfl, hus, rfl⟩ := hJ
    k_steps
    refine KBa.make_K (by k_asm) (by k_asm) rfl ⟨_, (N1 _ (List.Mem.head _)).1, rfl, _, rfl⟩ hus (little_in _ _) (by rw [KTBy.little_length]; omega) (fun h3 t3 k3 F3 N3 hr3 => ?_)
    k_steps
    exact hret _ _ _ _ (KBa.ints_make hr3) (by k_asm) (fun p hp => (by assumption : News h₀ L h3 ((_, W.listOf us.toArray nn) :: news)) p (List.Mem.tail _ hp))
end Mine
end

section
open PySem PySem.W PyProof.Rows
set_option Elab.async false
namespace Mine
def cut (k : Int) : Int := if (if k < 0 then -k else k) < 256 ^ Int.toNat 40 then k else k.fmod (256 ^ Int.toNat 40)
def Nums (nums : List Int) : Prop := ∀ n ∈ nums, -(256 : Int) ^ 40 < n ∧ n < (256 : Int) ^ 40
def Good (good : List Int) : Prop := good.Pairwise (· ≤ ·) ∧ (∀ n ∈ good, 0 ≤ n ∧ n < (256 : Int) ^ 40) ∧ 0 < good.length ∧ good.length < 64
theorem cut_in (k : Int) : -(256 : Int) ^ 40 < cut k ∧ cut k < (256 : Int) ^ 40 := by
  have e : Int.toNat 40 = 40 := rfl
  unfold cut
  rw [e]
  have h1 : 0 ≤ k.fmod (256 ^ 40) := Int.fmod_nonneg_of_pos k (by decide)
  have h2 : k.fmod (256 ^ 40) < 256 ^ 40 := Int.fmod_lt_of_pos k (by decide)
  by_cases h : k < 0
  · rw [if_pos h]
    by_cases h3 : -k < 256 ^ 40
    · rw [if_pos h3]; omega
    · rw [if_neg h3]; omega
  · rw [if_neg h]
    by_cases h3 : k < 256 ^ 40
    · rw [if_pos h3]; omega
    · rw [if_neg h3]; omega
theorem nums_in (l : List Int) : Nums (l.map cut ++ [0, 255, 256]) := by
  intro n hn
  rcases List.mem_append.mp hn with h | h
  · obtain ⟨k, _, rfl⟩ := List.mem_map.mp h
    exact cut_in k
  · have : n = 0 ∨ n = 255 ∨ n = 256 := by simpa using h
    omega
theorem nums_len (l : List Int) : ((l.take 10).map cut ++ [0, 255, 256]).length ≤ 13 := by
  simp only [List.length_append, List.length_map, List.length_take, List.length_cons, List.length_nil]
  omega
theorem filter_len (l : List Int) : (((l.take 10).map cut ++ [0, 255, 256]).filter (fun a => decide (0 ≤ a))).length < 64 := by
  have h1 := nums_len l
  have h2 := List.length_filter_le (fun a => decide (0 ≤ a)) ((l.take 10).map cut ++ [0, 255, 256])
  omega
theorem good_of {l good : List Int} (hp : good.Perm (((l.take 10).map cut ++ [0, 255, 256]).filter (fun a => decide (0 ≤ a)))) (ho : good.Pairwise (· ≤ ·)) : Good good := by
  refine ⟨ho, ?_, ?_, ?_⟩
  · intro n hn
    have h := hp.mem_iff.mp hn
    rw [List.mem_filter] at h
    exact ⟨by simpa using h.2, (nums_in _ n h.1).2⟩
  · have h : (0 : Int) ∈ good := hp.mem_iff.mpr (by rw [List.mem_filter]; exact ⟨List.mem_append_right _ (.head _), by decide⟩)
    exact List.length_pos_of_mem h
  · rw [hp.length_eq]
    exact filter_len l
theorem intBits_neg (x : Int) : Builtin.Int.intBits (-x) = Builtin.Int.intBits x := by
  unfold Builtin.Int.intBits
  simp
theorem sz_neg (x : Int) : sz (-x) = sz x := by unfold sz; rw [intBits_neg]
theorem nums_sz {nums : List Int} (h : Nums nums) {n : Int} (hn : n ∈ nums) : sz n ≤ 40 := by
  have h1 := h n hn
  rcases Int.le_total 0 n with h0 | h0
  · exact (lt_pow_iff h0 40).mp h1.2
  · rw [← sz_neg]
    exact (lt_pow_iff (by omega) 40).mp (by omega)
theorem good_sz {good : List Int} (h : Good good) {n : Int} (hn : n ∈ good) : sz n ≤ 40 := (lt_pow_iff (h.2.1 n hn).1 40).mp (h.2.1 n hn).2
end Mine
end

section
open PySem PySem.W PySem.Calls PyProof.Rows PyProof.V PySem.Spec
set_option Elab.async false
set_option maxRecDepth 100000
set_option maxHeartbeats 4000000
namespace Mine
def RelL (R : Int → Value → Prop) (ns : List Int) (ys : List Value) : Prop := ys.length = ns.length ∧ ∀ (i : Nat) (n : Int), ns[i]? = some n → ∃ v, ys[i]? = some v ∧ R n v
theorem RelL.nil {R : Int → Value → Prop} : RelL R [] [] := ⟨rfl, fun i n h => by simp at h⟩
theorem RelL.snoc {R : Int → Value → Prop} {ns : List Int} {ys : List Value} {n : Int} {v : Value} (h : RelL R ns ys) (hr : R n v) : RelL R (ns ++ [n]) (ys ++ [v]) := by
  refine ⟨by simp [h.1], fun i k hk => ?_⟩
  by_cases hi : i < ns.length
  · rw [List.getElem?_append_left hi] at hk
    obtain ⟨v', h1, h2⟩ := h.2 i k hk
    exact ⟨v', by rw [List.getElem?_append_left (by rw [h.1]; exact hi)]; exact h1, h2⟩
  · rw [List.getElem?_append_right (by omega)] at hk
    have e0 : i - ns.length = 0 := by
      rcases Nat.eq_zero_or_pos (i - ns.length) with e | e
      · exact e
      · rw [List.getElem?_eq_none (by simp; omega)] at hk; cases hk
    rw [e0] at hk
    have ek : n = k := by simpa using hk
    subst ek
    exact ⟨v, by rw [List.getElem?_append_right (by rw [h.1]; omega), h.1, e0]; rfl, hr⟩
section
variable {prog : Program} {w : World} {A : Around} {h₀ : Heap} {L : Addr} {m : Str → Option Value} {env : Env} {elt : Expr} {x : Str} {scope : Scope} {cl : List (Str × Addr)} {s : Shared} {S : List (Addr × Obj) → Prop} {Fin : List Value → List (Addr × Obj) → Prop} {news : List (Addr × Obj)}
theorem comp_rel {vs : List Value} {ns : List Int} (R : Int → Value → Prop) (hi : IntsAre vs ns) (hS : S news)
    (turn : ∀ k t I oI C oC D m₂ ys h tk (E' : Value → Shared → Prop), k ∈ ns → LCg.NsObj oC m₂ → m₂ x = some (.int k t) → Fr h₀ L h m → News h₀ L h ((I, oI) :: (C, oC) :: (D, LCg.lst ys) :: news) →
      wpAny (model prog w) A (eval elt (compEnvC scope cl C env)) (fun y s' => ∃ h' tk', s' = { s with heap := h', toks := tk' } ∧ Fr h₀ L h' m ∧ News h₀ L h' ((I, oI) :: (C, oC) :: (D, LCg.lst ys) :: news) ∧ R k y) E' { s with heap := h, toks := tk })
    (fin : ∀ ys, RelL R ns ys → Fin ys news) : LCg.CompRest prog w A h₀ L m env elt x scope cl s S (fun i v => vs.toArray[i]? = some v) Fin vs.toArray.size 0 [] news := by
  have hlen : vs.toArray.size = ns.length := by rw [List.size_toArray]; exact hi.length
  have key : ∀ (j i : Nat) (ys : List Value), i + j = ns.length → RelL R (ns.take i) ys → LCg.CompRest prog w A h₀ L m env elt x scope cl s S (fun i v => vs.toArray[i]? = some v) Fin j i ys news := by
    intro j
    induction j with
    | zero =>
      intro i ys hij hy
      have e : i = ns.length := by omega
      subst e
      rw [List.take_length] at hy
      exact LCg.CompRest.zero (fin ys hy)
    | succ j ih =>
      intro i ys hij hy
      refine LCg.CompRest.succ ?_
      intro v I oI C oC D m₂ h tk E' hv hC hx F N off ne
      obtain ⟨k, t, e, hk⟩ := IntsAre.at hi i v (by simpa using hv)
      rw [e] at hx
      refine wpAny_mono (turn k t I oI C oC D m₂ ys h tk E' (List.mem_of_getElem? hk) hC hx F N) (fun y s₂ hq => ?_) fun _ _ e => e
      obtain ⟨h', tk', e', F', N', hr⟩ := hq
      refine ⟨h', tk', news, e', F', N', off, hS, ?_⟩
      refine ih (i + 1) _ (by omega) ?_
      rw [List.take_add_one, hk]
      exact hy.snoc hr
  rw [hlen]
  exact key ns.length 0 [] (by omega) (by rw [List.take_zero]; exact RelL.nil)
end
end Mine
end

section
open PySem PySem.W PySem.Calls PyProof.Rows PyProof.V PySem.Spec
set_option Elab.async false
set_option maxRecDepth 100000
set_option maxHeartbeats 4000000
namespace Mine
section
variable {prog : Program} {w : World} {A : Around} {E : Value → Shared → Prop} {s : Shared} {h₀ : Heap} {L : Addr} {news : List (Addr × Obj)}
theorem len_good {D : Addr} {c : Nat} {vs : List Value} {good : List Int} {Q : Value → Shared → Prop} (N : News h₀ L s.heap news) (hm : (D, W.listOf vs.toArray c) ∈ news) (hi : IntsAre vs good) (hG : Good good)
    (h : Q (.int (good.length : Int) (s.toks + 1)) { s with toks := s.toks + 1 + 1 }) : wpAny (model prog w) A (call (.builtin "len") [.ref D]) Q E s := by
  have e : ((vs.toArray.size : Nat) : Int) = (good.length : Int) := hi.sizeZ
  refine call_len_list ⟨_, (N _ hm).1, rfl, _, rfl⟩ ?_ ?_
  · have := hG.2.2.2; omega
  · rw [e]; exact h
end
end Mine
end

section
open PySem PySem.W PySem.Calls PyProof.Rows PyProof.V PySem.Spec
set_option Elab.async false
set_option maxRecDepth 100000
set_option maxHeartbeats 4000000
namespace Mine
theorem slot_b_gt : Slot "bytes" (cmpInfo .Gt).2.1 "bytes.__gt__" :=
  .of (owner := "bytes") (n := "__gt__") (by rw [typeLookup_type, builtinLookup_eq_fast]; kernel_rfl) (by decide +kernel) (by decide +kernel) (by decide +kernel)
    (by first | exact .inl (by decide +kernel) | exact .inr (by decide +kernel)) (by rw [isSubtype_type]; kernel_rfl)
theorem entry_b_gt : entryFor table "bytes.__gt__" = some Builtin.«bytes.__gt__» := entryFor_of_tree (by kernel_rfl)
theorem args_b_gt (a b : Value) : argsOk "bytes.__gt__" ⟨[a, b], []⟩ := by
  unfold argsOk; rw [signature?_of (id := "bytes.__gt__") (n := ['_', '_', 't', 'g', '_', '_']) (o := ['s', 'e', 't', 'y', 'b']) (by kernel_rfl) FB.owner_bytes]; kernel_rfl
theorem gives_b_gt (b c : Array UInt8) (t u : Tok) : Gives (Builtin.«bytes.__gt__» ⟨[.bytes b t, .bytes c u], []⟩) (.val (.bool (Builtin.Bytes.order b.toList c.toList == .gt))) := by
  refine .of_wp fun M A E s Q hq => ?_
  show wpAny M A (isInstance (.bytes c u) (.type "bytes") >>= fun r => _) _ E s
  refine wpAny_bind (wpAny_isInstance (typeIs_bytes s c u) F.sub_bytes_bytes ?_)
  exact wpAny_pure ⟨_, rfl, hq⟩
section
variable {prog : Program} {w : World} {A : Around} {E : Value → Shared → Prop} {s : Shared} {b c : Array UInt8} {t u : Tok}
theorem rc_gt_bytes {Q : Value → Shared → Prop} (h : Q (.bool (Builtin.Bytes.order b.toList c.toList == .gt)) s) : wpAny (model prog w) A (richCompare .Gt (.bytes b t) (.bytes c u)) Q E s :=
  richCompare_gives (op := .Gt) (typeIs_bytes s b t) (typeIs_bytes s c u) slot_b_gt entry_b_gt (args_b_gt _ _) (gives_b_gt b c t u) (fun e => nomatch e) h
theorem gt_bytes {Q : Value → Shared → Prop} (h : Q (.bool (Builtin.Bytes.order b.toList c.toList == .gt)) s) : wpAny (model prog w) A (compareOp .Gt (.bytes b t) (.bytes c u)) Q E s := rc_gt_bytes h
end
theorem rc_gt_int {prog : Program} {w : World} {A : Around} {E : Value → Shared → Prop} {s : Shared} {a b : Int} {t u : Tok} {Q : Value → Shared → Prop} (h : Q (.bool (decide (a > b))) s) : wpAny (model prog w) A (richCompare .Gt (.int a t) (.int b u)) Q E s := by
  show wpAny (model prog w) A (compareOp .Gt (.int a t) (.int b u)) Q E s
  exact PyProof.Rows.gt_int h
def pairObj (i : Int) (t : Tok) (b : Array UInt8) (u : Tok) (n : Nat) : Obj := { cls := .type "tuple", data := .seq #[.int i t, .bytes b u] n }
def pairGt (i j : Int) (b c : Array UInt8) : Bool := if i = j then Builtin.Bytes.order b.toList c.toList == .gt else decide (i > j)
theorem tuple_gtM (l r : Addr) (i j : Int) (b c : Array UInt8) (ti tj tb tc : Tok) (n m : Nat) :
    Meets (Builtin.«tuple.__gt__» ⟨[.ref l, .ref r], []⟩)
      (fun A R s => s.heap.get? l = some (pairObj i ti b tb n) ∧ s.heap.get? r = some (pairObj j tj c tc m) ∧ R (.ok (.ret (.bool (pairGt i j b c)))) s) :=
  .of_wp fun prog w A R s h => by
    obtain ⟨hp, g, d, tk, os⟩ := s; obtain ⟨hl, hr, h⟩ := h
    have f2 := AutoSeq1.sub_tuple_tuple
    unfold pairObj at hl hr
    wp_walk using AutoSeq1.wpAny_loadPart' hl, AutoSeq1.wpAny_loadPart' hr
    refine wpAny_eqBool_int (a := i) (b := j) (t := ti) (u := tj) ?_
    by_cases hij : i = j
    · subst hij
      rw [beq_self_eq_true]
      wp_walk
      refine eqBool_bytes (b := b) (c := c) (t := tb) (u := tc) ?_
      unfold pairGt at h
      rw [if_pos rfl] at h
      by_cases hbc : b.toList = c.toList
      · rw [decide_eq_true hbc]
        have e : (Builtin.Bytes.order b.toList c.toList == .gt) = false := by
          have h2 := PySem.W.order_eq b.toList c.toList
          rw [hbc] at h2 ⊢
          rw [beq_self_eq_true] at h2
          rw [beq_iff_eq.mp h2]
          rfl
        rw [e] at h
        wp_walk
        exact ⟨_, rfl, h⟩
      · rw [decide_eq_false hbc]
        wp_walk using rc_gt_bytes
        exact ⟨_, rfl, h⟩
    · have e : (i == j) = false := beq_eq_false_iff_ne.mpr hij
      rw [e]
      unfold pairGt at h
      rw [if_neg hij] at h
      wp_walk using rc_gt_int
      exact ⟨_, rfl, h⟩
def pairEq (i j : Int) (b c : Array UInt8) : Bool := i == j && decide (b.toList = c.toList)
section
variable {prog : Program} {w : World} {A : Around} {E : Value → Shared → Prop} {s : Shared} {l r : Addr} {i j : Int} {b c : Array UInt8} {ti tj tb tc : Tok} {n m : Nat} {Q : Value → Shared → Prop}
theorem pair_gt (hl : s.heap.get? l = some (pairObj i ti b tb n)) (hr : s.heap.get? r = some (pairObj j tj c tc m)) (hu : A.units < cLine) (h : Q (.bool (pairGt i j b c)) s) :
    wpAny (model prog w) A (compareOp .Gt (.ref l) (.ref r)) Q E s := by
  show wpAny (model prog w) A (richCompare .Gt (.ref l) (.ref r)) Q E s
  exact richCompare_meets_room (T := "tuple") ⟨_, hl, rfl⟩ ⟨_, hr, rfl⟩ F.slot_tuple_gt F.entry_tuple_gt (F.args_tuple_gt_2 _ _) (tuple_gtM l r i j b c ti tj tb tc n m) ⟨hl, hr, (fun e => nomatch e), h⟩ hu
theorem pair_eq (hl : s.heap.get? l = some (pairObj i ti b tb n)) (hr : s.heap.get? r = some (pairObj j tj c tc m)) (hu : A.units < cLine) (h : Q (.bool (pairEq i j b c)) s) :
    wpAny (model prog w) A (compareOp .Eq (.ref l) (.ref r)) Q E s := by
  show wpAny (model prog w) A (richCompare .Eq (.ref l) (.ref r)) Q E s
  refine richCompare_meets_room (T := "tuple") ⟨_, hl, rfl⟩ ⟨_, hr, rfl⟩ F.slot_tuple_eq F.entry_tuple_eq (F.args_tuple_eq_2 _ _) (SeqAt.tuple_eqAt l r _ _ _ _ none none #[] #[] (fun k => if k = 0 then i == j else decide (b.toList = c.toList))) ⟨hl, hr, ?_, ?_⟩ hu
  · intro k h1 h2
    have h1' : k < 2 := h1
    rcases Nat.lt_or_ge k 1 with hk | hk
    · have : k = 0 := by omega
      subst this
      exact SeqAt.EqAt.int_int i ti j tj
    · have : k = 1 := by omega
      subst this
      intro prog w E Q hq
      exact eqBool_bytes hq
  · refine ⟨(fun e => nomatch e), ?_⟩
    have e : ((List.range (min (#[Value.int i ti, Value.bytes b tb].size) (#[Value.int j tj, Value.bytes c tc].size))).all (fun k => if k = 0 then i == j else decide (b.toList = c.toList)) && #[Value.int i ti, Value.bytes b tb].size == #[Value.int j tj, Value.bytes c tc].size) = pairEq i j b c := by
      show (((i == j) && ((decide (b.toList = c.toList)) && true)) && true) = _
      unfold pairEq
      simp
    rw [e]
    exact h
end
end Mine
end

section
open PySem PySem.W PySem.Calls PyProof.Rows PyProof.V PySem.Spec
set_option Elab.async false
set_option maxRecDepth 100000
set_option maxHeartbeats 4000000
namespace Mine
def AtI (l : List Value) (k : Int) (v : Value) : Prop := 0 ≤ k ∧ k < 1000 ∧ l[k.toNat]? = some v
section
variable {prog : Program} {w : World} {A : Around} {E : Value → Shared → Prop} {s : Shared} {h₀ : Heap} {L : Addr} {news : List (Addr × Obj)}
theorem get_list {D : Addr} {c : Nat} {l : List Value} {k : Int} {t : Tok} {v : Value} {Q : Value → Shared → Prop} (N : News h₀ L s.heap news) (hm : (D, ({ cls := .type "list", data := .seq l.toArray c } : Obj)) ∈ news) (ha : AtI l k v)
    (h : Q v s) : wpAny (model prog w) A (getItem (.ref D) (.int k t)) Q E s :=
  wpAny_getItem_list ⟨_, (N _ hm).1, rfl, _, rfl⟩ ha.1 (by have := ha.2.1; omega) (by simpa using ha.2.2) h
theorem sub_list {value slice : Expr} {D : Addr} {c : Nat} {l : List Value} {k : Int} {t : Tok} {v : Value} {Q : Value → Shared → Prop} (N : News h₀ L s.heap news) (hm : (D, ({ cls := .type "list", data := .seq l.toArray c } : Obj)) ∈ news) (ha : AtI l k v)
    (h : Q v s) (hs : subscripted slice false (.ref D) (.int k t) = operate [.ref D, .int k t] (getItem (.ref D) (.int k t)) := by with_unfolding_all rfl) (ht : ∀ r, letTemporaryGo value (.ref D) r = pure () := by intro _; with_unfolding_all rfl) :
    wpAny (model prog w) A (subscriptTail value slice (.ref D) (.int k t)) Q E s :=
  subscriptTail_builtin (s := s) (T := "list") ⟨_, (N _ hm).1, rfl⟩ slot_list_getitem.lookup (get_list N hm ha h) hs ht
end
theorem atI_good {vs : List Value} {good : List Int} (hi : IntsAre vs good) (hG : Good good) {i : Nat} (h : i < good.length) : ∃ n t, good[i]? = some n ∧ AtI vs (i : Int) (.int n t) := by
  have hv : i < vs.length := by rw [hi.length]; exact h
  obtain ⟨n, t, e, hn⟩ := IntsAre.at hi i vs[i] (List.getElem?_eq_getElem hv)
  refine ⟨n, t, hn, by omega, by have := hG.2.2.2; omega, ?_⟩
  rw [Int.toNat_natCast, List.getElem?_eq_getElem hv, e]
def FormOf (n : Int) (v : Value) : Prop := ∃ b t, v = Value.bytes b t ∧ KBw.bInts b = form n
theorem atI_form {ys : List Value} {good : List Int} (hy : RelL FormOf good ys) (hG : Good good) {i : Nat} {n : Int} (h : good[i]? = some n) : ∃ b t, AtI ys (i : Int) (.bytes b t) ∧ KBw.bInts b = form n := by
  obtain ⟨v, hv, b, t, rfl, hb⟩ := hy.2 i n h
  have hl := (List.getElem?_eq_some_iff.mp h).1
  exact ⟨b, t, ⟨by omega, by have := hG.2.2.2; omega, by rw [Int.toNat_natCast]; exact hv⟩, hb⟩
theorem AtI.cast {l : List Value} {k k' : Int} {v : Value} (h : AtI l k v) (e : k = k') : AtI l k' v := e ▸ h
end Mine
end

section
open PySem PySem.W PyProof.Rows
set_option Elab.async false
namespace Mine
open KBa (In)
open KFB (value)
theorem value_snoc (ks : List Int) (k : Int) : value (ks ++ [k]) = value ks * 256 + k := by
  unfold KFB.value
  rw [List.foldl_append]
  rfl
theorem In.init {ks : List Int} {k : Int} (h : In (ks ++ [k])) : In ks ∧ 0 ≤ k ∧ k < 256 :=
  ⟨fun n hn => h n (List.mem_append_left _ hn), h k (List.mem_append_right _ (List.Mem.head _))⟩
theorem snoc_ind {P : List Int → Prop} (h0 : P []) (h1 : ∀ ks k, P ks → P (ks ++ [k])) : ∀ ks, P ks := by
  have key : ∀ l : List Int, P l.reverse := by
    intro l
    induction l with
    | nil => exact h0
    | cons k r ih => rw [List.reverse_cons]; exact h1 _ _ ih
  intro ks
  have := key ks.reverse
  rwa [List.reverse_reverse] at this
theorem value_bounds : ∀ ks : List Int, In ks → 0 ≤ value ks ∧ value ks < 256 ^ ks.length := by
  refine snoc_ind ?_ ?_
  · intro _; exact ⟨by decide, by decide⟩
  · intro ks k ih h
    obtain ⟨h1, h2, h3⟩ := In.init h
    obtain ⟨a, b⟩ := ih h1
    rw [value_snoc, List.length_append, List.length_singleton, Int.pow_succ]
    omega
theorem little_rev (n : Nat) (x : Int) : (KTBy.little (n + 1) x).reverse = (KTBy.little n (x / 256)).reverse ++ [x % 256] := by
  show (x % 256 :: KTBy.little n (x / 256)).reverse = _
  rw [List.reverse_cons]
theorem le_value : ∀ ks : List Int, In ks → (KTBy.little ks.length (value ks)).reverse = ks := by
  refine snoc_ind ?_ ?_
  · intro _; rfl
  · intro ks k ih h
    obtain ⟨h1, h2, h3⟩ := In.init h
    rw [List.length_append, List.length_singleton, little_rev, value_snoc]
    have e1 : (value ks * 256 + k) / 256 = value ks := by omega
    have e2 : (value ks * 256 + k) % 256 = k := by omega
    rw [e1, e2, ih h1]
theorem value_le : ∀ (n : Nat) (x : Int), 0 ≤ x → x < 256 ^ n → value (KTBy.little n x).reverse = x
  | 0, x, h0, h1 => by
    have : x = 0 := by rw [Int.pow_zero] at h1; omega
    subst this
    rfl
  | n + 1, x, h0, h1 => by
    rw [little_rev, value_snoc, value_le n (x / 256) (by omega) (by rw [Int.pow_succ] at h1; omega)]
    omega
theorem little_inL (n : Nat) (x : Int) : In (KTBy.little n x) := by
  intro k hk
  rw [KTBy.little_eq] at hk
  obtain ⟨i, _, rfl⟩ := List.mem_map.mp hk
  omega
theorem form_in (x : Int) : In (form x) := by
  intro k hk
  exact little_inL _ _ k (by unfold form at hk; exact List.mem_reverse.mp hk)
theorem value_form {x : Int} (h : 0 ≤ x) : value (form x) = x := value_le _ _ h (lt_sz h)
theorem value_zero_cons (l : List Int) : value (0 :: l) = value l := rfl
theorem value_zeros (m : Nat) (l : List Int) : value (List.replicate m 0 ++ l) = value l := by
  induction m with
  | zero => rfl
  | succ m ih => rw [List.replicate_succ, List.cons_append, value_zero_cons, ih]
theorem value_cons (k : Int) : ∀ r : List Int, value (k :: r) = k * 256 ^ r.length + value r := by
  refine snoc_ind ?_ ?_
  · show (0 * 256 + k : Int) = k * 256 ^ 0 + 0
    rw [Int.pow_zero]; omega
  · intro r c ih
    rw [← List.cons_append, value_snoc, value_snoc, ih, List.length_append, List.length_singleton, Int.pow_succ, ← Int.mul_assoc, Int.add_mul]
    omega
theorem form_head {x : Int} (h : 0 ≤ x) : (form x).head? ≠ some 0 := by
  intro hh
  cases hf : form x with
  | nil => rw [hf] at hh; cases hh
  | cons k r =>
    rw [hf] at hh
    have hk : k = 0 := by simpa using hh
    subst hk
    have hv := value_form h
    rw [hf, value_zero_cons] at hv
    have hin : In r := fun n hn => form_in x n (by rw [hf]; exact List.Mem.tail _ hn)
    have hb := (value_bounds r hin).2
    rw [hv] at hb
    have hs := (lt_pow_iff h r.length).mp hb
    have hl := form_length x
    rw [hf, List.length_cons] at hl
    omega
theorem value_ge {k : Int} {r : List Int} (h : In (k :: r)) (hk : k ≠ 0) : 256 ^ r.length ≤ value (k :: r) := by
  rw [value_cons]
  have h1 := (h k (List.Mem.head _)).1
  have h2 := (value_bounds r fun n hn => h n (List.Mem.tail _ hn)).1
  have h3 : (0 : Int) ≤ 256 ^ r.length := Int.pow_nonneg (by decide)
  have h4 : 1 * (256 : Int) ^ r.length ≤ k * 256 ^ r.length := Int.mul_le_mul_of_nonneg_right (by omega) h3
  omega
theorem form_value {ks : List Int} (h : In ks) (hh : ks.head? ≠ some 0) : form (value ks) = ks ∧ sz (value ks) = ks.length := by
  have hb := value_bounds ks h
  have hs : sz (value ks) = ks.length := by
    cases ks with
    | nil => rfl
    | cons k r =>
      have hk : k ≠ 0 := fun e => hh (by rw [e]; rfl)
      have h1 := value_ge h hk
      have h2 := (lt_pow_iff hb.1 (k :: r).length).mp hb.2
      have h3 : ¬ sz (value (k :: r)) ≤ r.length := fun q => absurd ((lt_pow_iff hb.1 r.length).mpr q) (by omega)
      rw [List.length_cons] at h2 ⊢
      omega
  refine ⟨?_, hs⟩
  unfold form
  rw [hs]
  exact le_value ks h
theorem fform_length {n : Nat} {x : Int} (h0 : 0 ≤ x) (h1 : x < 256 ^ n) : (fform n x).length = n := by
  have := (lt_pow_iff h0 n).mp h1
  unfold fform
  rw [List.length_append, List.length_replicate, form_length]
  omega
theorem fform_value (n : Nat) {x : Int} (h0 : 0 ≤ x) : value (fform n x) = x := by
  unfold fform
  rw [value_zeros, value_form h0]
theorem fform_in (n : Nat) (x : Int) : In (fform n x) := by
  intro k hk
  unfold fform at hk
  rcases List.mem_append.mp hk with h | h
  · rw [List.eq_of_mem_replicate h]; decide
  · exact form_in x k h
theorem fform_of {n : Nat} {ks : List Int} (h : In ks) (hl : ks.length = n) : fform n (value ks) = ks := by
  have hb := value_bounds ks h
  rw [hl] at hb
  have e1 := le_value ks h
  have e2 := le_value (fform n (value ks)) (fform_in _ _)
  rw [fform_length hb.1 hb.2, fform_value n hb.1] at e2
  rw [hl] at e1
  exact e2.symm.trans e1
theorem bInts_in (b : Array UInt8) : In (KBw.bInts b) := fun _ h => KBw.ints_in h
def V (l : List UInt8) : Int := value (l.map fun c => ((c.toNat : Nat) : Int))
theorem V_bounds (l : List UInt8) : 0 ≤ V l ∧ V l < 256 ^ l.length := by
  have h := value_bounds (l.map fun c => ((c.toNat : Nat) : Int)) (by intro k hk; obtain ⟨c, _, rfl⟩ := List.mem_map.mp hk; have := c.toNat_lt; omega)
  rwa [List.length_map] at h
theorem V_cons (c : UInt8) (l : List UInt8) : V (c :: l) = (c.toNat : Int) * 256 ^ l.length + V l := by
  unfold V
  rw [List.map_cons, value_cons, List.length_map]
theorem order_gt : ∀ l₁ l₂ : List UInt8, l₁.length = l₂.length → (Builtin.Bytes.order l₁ l₂ == .gt) = decide (V l₂ < V l₁)
  | [], [], _ => rfl
  | x :: xs, y :: ys, h => by
    have hl : xs.length = ys.length := by simpa using h
    have b1 := V_bounds xs
    have b2 := V_bounds ys
    rw [← hl] at b2
    have hp : (0 : Int) ≤ 256 ^ xs.length := Int.pow_nonneg (by decide)
    rw [V_cons, V_cons, ← hl]
    unfold Builtin.Bytes.order
    by_cases h1 : x < y
    · rw [if_pos h1]
      have h2 : x.toNat < y.toNat := UInt8.lt_iff_toNat_lt.mp h1
      have h3 : ((x.toNat : Int) + 1) * 256 ^ xs.length ≤ (y.toNat : Int) * 256 ^ xs.length := Int.mul_le_mul_of_nonneg_right (by omega) hp
      rw [Int.add_mul] at h3
      symm
      rw [show (Ordering.lt == Ordering.gt) = false from rfl, decide_eq_false_iff_not]
      omega
    · rw [if_neg h1]
      by_cases h2 : x > y
      · rw [if_pos h2]
        have h2' : y.toNat < x.toNat := UInt8.lt_iff_toNat_lt.mp h2
        have h3 : ((y.toNat : Int) + 1) * 256 ^ xs.length ≤ (x.toNat : Int) * 256 ^ xs.length := Int.mul_le_mul_of_nonneg_right (by omega) hp
        rw [Int.add_mul] at h3
        symm
        rw [show (Ordering.gt == Ordering.gt) = true from rfl, decide_eq_true_iff]
        omega
      · rw [if_neg h2, order_gt xs ys hl]
        have e : x = y := UInt8.le_antisymm (UInt8.not_lt.mp h2) (UInt8.not_lt.mp h1)
        subst e
        have : (V ys < V xs) ↔ ((x.toNat : Int) * 256 ^ xs.length + V ys < (x.toNat : Int) * 256 ^ xs.length + V xs) := by omega
        exact decide_eq_decide.mpr this
theorem V_bInts (b : Array UInt8) : V b.toList = value (KBw.bInts b) := rfl
theorem toList_inj {b c : Array UInt8} (h : KBw.bInts b = KBw.bInts c) : b.toList = c.toList := by
  have key : ∀ l₁ l₂ : List UInt8, l₁.map (fun c => ((c.toNat : Nat) : Int)) = l₂.map (fun c => ((c.toNat : Nat) : Int)) → l₁ = l₂ := by
    intro l₁
    induction l₁ with
    | nil => intro l₂ h; cases l₂ with
      | nil => rfl
      | cons y ys => cases h
    | cons x xs ih => intro l₂ h; cases l₂ with
      | nil => cases h
      | cons y ys =>
        rw [List.map_cons, List.map_cons] at h
        injection h with h1 h2
        have h3 : x.toNat = y.toNat := by omega
        have h4 : x = y := UInt8.toNat_inj.mp h3
        rw [ih ys h2, h4]
  exact key _ _ h
theorem toList_eq_iff {b c : Array UInt8} {ks ls : List Int} (hb : KBw.bInts b = ks) (hc : KBw.bInts c = ls) : b.toList = c.toList ↔ ks = ls := by
  constructor
  · intro e
    rw [← hb, ← hc]
    unfold KBw.bInts
    rw [e]
  · intro e
    exact toList_inj (by rw [hb, hc, e])
theorem bytes_le {b c : Array UInt8} {ks ls : List Int} (hb : KBw.bInts b = ks) (hc : KBw.bInts c = ls) (hl : ks.length = ls.length) (h : value ks ≤ value ls) : (Builtin.Bytes.order b.toList c.toList == .gt) = false := by
  have e1 : b.toList.length = c.toList.length := by
    have := KBw.ints_length b
    have := KBw.ints_length c
    rw [hb] at *
    rw [hc] at *
    rw [Array.length_toList, Array.length_toList]
    omega
  rw [order_gt _ _ e1, V_bInts, V_bInts, hb, hc, decide_eq_false_iff_not]
  omega
theorem sz_mono {x y : Int} (h0 : 0 ≤ x) (h : x ≤ y) : sz x ≤ sz y :=
  (lt_pow_iff h0 _).mp (Int.lt_of_le_of_lt h (lt_sz (by omega)))
theorem pair_not_gt {x y : Int} {b c : Array UInt8} (h0 : 0 ≤ x) (h : x ≤ y) (hb : KBw.bInts b = form x) (hc : KBw.bInts c = form y) : pairGt ((form x).length : Int) ((form y).length : Int) b c = false := by
  unfold pairGt
  have hm := sz_mono h0 h
  rw [form_length, form_length]
  by_cases he : (sz x : Int) = (sz y : Int)
  · rw [if_pos he]
    exact bytes_le hb hc (by rw [form_length, form_length]; omega) (by rw [value_form h0, value_form (by omega)]; exact h)
  · rw [if_neg he, decide_eq_false_iff_not]
    omega
theorem form_inj {x y : Int} (h0 : 0 ≤ x) (h1 : 0 ≤ y) (h : form x = form y) : x = y := by
  have := congrArg value h
  rwa [value_form h0, value_form h1] at this
theorem pair_eq_iff {x y : Int} {b c : Array UInt8} (h0 : 0 ≤ x) (h1 : 0 ≤ y) (hb : KBw.bInts b = form x) (hc : KBw.bInts c = form y) : pairEq ((form x).length : Int) ((form y).length : Int) b c = decide (x = y) := by
  unfold pairEq
  by_cases h : x = y
  · subst h
    rw [beq_self_eq_true, Bool.true_and, decide_eq_true rfl]
    exact decide_eq_true ((toList_eq_iff hb hc).mpr rfl)
  · rw [decide_eq_false h, decide_eq_false fun e => h (form_inj h0 h1 ((toList_eq_iff hb hc).mp e)), Bool.and_false]
theorem slice_head1 {p : Array UInt8} {ks : List Int} (h : KBw.bInts p = List.take (clipAt ks.length 1) ks) : KBw.bInts p = ks.take 1 := by
  rw [h, clip1]
  cases ks with
  | nil => rfl
  | cons k r =>
    have e : min 1 (k :: r).length = 1 := by rw [List.length_cons]; omega
    rw [e]
theorem no_nought {p : Array UInt8} {ks : List Int} (h : KBw.bInts p = List.take (clipAt ks.length 1) ks) (hs : (p.toList == (#[(0 : UInt8)]).toList) = true) : ks.head? = some 0 := by
  rw [slice_is0 (slice_head1 h)] at hs
  exact of_decide_eq_true hs
theorem nought_not {p : Array UInt8} {ks : List Int} (h : KBw.bInts p = List.take (clipAt ks.length 1) ks) (hs : (p.toList == (#[(0 : UInt8)]).toList) = false) : ks.head? ≠ some 0 := by
  rw [slice_is0 (slice_head1 h)] at hs
  exact of_decide_eq_false hs
section
variable {prog : Program} {w : World} {A : Around} {E : Value → Shared → Prop} {s : Shared} {h₀ : Heap} {L : Addr} {news : List (Addr × Obj)} {l r : Addr} {i j : Int} {b c : Array UInt8} {ti tj tb tc : Tok} {n m : Nat} {Q : Value → Shared → Prop}
theorem pair_gtN (N : News h₀ L s.heap news) (hl : (l, pairObj i ti b tb n) ∈ news) (hr : (r, pairObj j tj c tc m) ∈ news) (hu : A.units < cLine) (h : Q (.bool (pairGt i j b c)) s) :
    wpAny (model prog w) A (compareOp .Gt (.ref l) (.ref r)) Q E s := pair_gt (N _ hl).1 (N _ hr).1 hu h
theorem pair_eqN (N : News h₀ L s.heap news) (hl : (l, pairObj i ti b tb n) ∈ news) (hr : (r, pairObj j tj c tc m) ∈ news) (hu : A.units < cLine) (h : Q (.bool (pairEq i j b c)) s) :
    wpAny (model prog w) A (compareOp .Eq (.ref l) (.ref r)) Q E s := pair_eq (N _ hl).1 (N _ hr).1 hu h
end
theorem good_le {good : List Int} (hG : Good good) {i j : Nat} {x y : Int} (hij : i < j) (hx : good[i]? = some x) (hy : good[j]? = some y) : x ≤ y := by
  obtain ⟨h1, rfl⟩ := List.getElem?_eq_some_iff.mp hx
  obtain ⟨h2, rfl⟩ := List.getElem?_eq_some_iff.mp hy
  exact List.pairwise_iff_getElem.mp hG.1 i j h1 h2 hij
end Mine
end

section
open PySem PySem.W PySem.Calls PyProof.Rows PyProof.V PySem.Spec
set_option Elab.async false
set_option maxRecDepth 100000
set_option maxHeartbeats 4000000
namespace Mine
theorem execs_one (b : Stmt) (rest : List Stmt) (env : Env) : execs (b :: rest) env = (execs [b] env >>= fun f => match f with | .next => execs rest env | f => pure f) := by
  rw [execs_cons env b rest, execs_cons env b [], bind_assoc]
  congr 1
  funext f
  cases f with
  | next => show execs rest env = (pure Flow.next >>= _); rw [pure_bind]
  | _ => simp only [pure_bind]
theorem execs_two (a b : Stmt) (rest : List Stmt) (env : Env) : execs (a :: b :: rest) env = (execs [a, b] env >>= fun f => match f with | .next => execs rest env | f => pure f) := by
  rw [execs_cons env a (b :: rest), execs_cons env a [b], bind_assoc]
  congr 1
  funext f
  cases f with
  | next => exact execs_one b rest env
  | _ => simp only [pure_bind]
theorem cut2 {M : Model} {A : Around} {E : Value → Shared → Prop} {s : Shared} {a b : Stmt} {rest : List Stmt} {env : Env} {Q : Flow → Shared → Prop} (P : Shared → Prop)
    (h1 : wpAny M A (execs [a, b] env) (fun f s' => f = .next ∧ P s') E s) (h2 : ∀ s', P s' → wpAny M A (execs rest env) Q E s') : wpAny M A (execs (a :: b :: rest) env) Q E s := by
  rw [execs_two]
  refine wpAny_bind (wpAny_mono h1 ?_ fun _ _ e => e)
  rintro f s' ⟨rfl, p⟩
  exact h2 s' p
def SizeP (h₀ : Heap) (L : Addr) (m : Str → Option Value) (led : List (Addr × Obj)) (s s' : Shared) : Prop :=
  ∃ (z : Int) (t : Tok) (h' : Heap) (tk : Nat) (m' : Str → Option Value), 0 ≤ z ∧ z ≤ 40 ∧ s' = { s with heap := h', toks := tk } ∧ Fr h₀ L h' m' ∧ m' (Str.ofString "size") = some (.int z t) ∧ (∀ y, y ≠ Str.ofString "size" → m' y = m y) ∧ News h₀ L h' led
theorem size_intro {h₀ : Heap} {L : Addr} {m m' : Str → Option Value} {led : List (Addr × Obj)} {s : Shared} {h' : Heap} {tk : Nat} {z : Int} {t : Tok} (F : Fr h₀ L h' m') (hs : m' (Str.ofString "size") = some (.int z t)) (hm : ∀ y, y ≠ Str.ofString "size" → m' y = m y) (N : News h₀ L h' led)
    (h0 : 0 ≤ z) (h1 : z ≤ 40) : SizeP h₀ L m led s { s with heap := h', toks := tk } := ⟨z, t, h', tk, m', h0, h1, rfl, F, hs, hm, N⟩
theorem cut_size {M : Model} {A : Around} {E : Value → Shared → Prop} {s : Shared} {a b : Stmt} {rest : List Stmt} {env : Env} {Q : Flow → Shared → Prop} {h₀ : Heap} {m : Str → Option Value} {led : List (Addr × Obj)}
    (_F : Fr h₀ env.locals s.heap m) (_N : News h₀ env.locals s.heap led)
    (h1 : wpAny M A (execs [a, b] env) (fun f s' => f = .next ∧ SizeP h₀ env.locals m led s s') E s)
    (h2 : ∀ (n : Nat) t h' tk, n ≤ 40 → Fr h₀ env.locals h' (fun y => if y = Str.ofString "size" then some (.int (n : Int) t) else m y) → News h₀ env.locals h' led → wpAny M A (execs rest env) Q E { s with heap := h', toks := tk }) :
    wpAny M A (execs (a :: b :: rest) env) Q E s := by
  refine cut2 (SizeP h₀ env.locals m led s) h1 ?_
  rintro s' ⟨z, t, h', tk, m', hz0, hz1, rfl, F, hs, hm, N⟩
  obtain ⟨n, rfl⟩ : ∃ n : Nat, z = (n : Int) := ⟨z.toNat, by omega⟩
  have e : m' = fun y => if y = Str.ofString "size" then some (.int (n : Int) t) else m y := by
    funext y
    by_cases hy : y = Str.ofString "size"
    · subst hy
      rw [if_pos rfl]
      exact hs
    · rw [if_neg hy]
      exact hm y hy
  rw [e] at F
  exact h2 n t h' tk (by omega) F N
def LastP (n : Nat) (good : List Int) (i : Nat) (lv : Value) : Prop := lv = .none ∨ ∃ b t x j, j < i ∧ good[j]? = some x ∧ x < (256 : Int) ^ n ∧ lv = Value.bytes b t ∧ KBw.bInts b = fform n x
theorem LastP.mono {n : Nat} {good : List Int} {i : Nat} {lv : Value} (h : LastP n good i lv) : LastP n good (i + 1) lv := by
  rcases h with h | ⟨b, t, x, j, hj, r⟩
  · exact .inl h
  · exact .inr ⟨b, t, x, j, by omega, r⟩
theorem last_intro {n : Nat} {good : List Int} {i : Nat} {lv : Value} {m₀ m' : Str → Option Value} (hL : LastP n good i lv) (hl : m' (Str.ofString "last") = some lv)
    (hm : ∀ y, y ≠ Str.ofString "number" → y ≠ Str.ofString "form" → y ≠ Str.ofString "last" → m' y = m₀ y) :
    ∃ o1 o2 lv, LastP n good i lv ∧ m' = fun y => if y = Str.ofString "number" then o1 else if y = Str.ofString "form" then o2 else if y = Str.ofString "last" then some lv else m₀ y := by
  obtain ⟨o1, o2, o3, e⟩ := ch3 hm
  refine ⟨o1, o2, lv, hL, ?_⟩
  have e3 : o3 = some lv := by
    have h9 := congrFun e (Str.ofString "last")
    rw [hl] at h9
    rw [h9]
    rfl
  rw [e, e3]
end Mine
end

section
open PySem PySem.W PyProof.Rows
set_option Elab.async false
set_option maxRecDepth 100000
set_option maxHeartbeats 8000000
set_option pp.deepTerms false
set_option pp.deepTerms.threshold 8
set_option pp.proofs.threshold 0
set_option linter.unusedVariables false
namespace Mine

local macro_rules | `(tactic| walk_at "pyIter ref") => `(tactic| (refine stopAt ?_))
local macro_rules | `(tactic| walk_at "call ref") => `(tactic| ((first | (with_reducible show wpAny _ _ (call (Value.ref 136) _) _ _ _) | (with_reducible show wpAny _ _ (call (Value.ref 143) _) _ _ _) | (with_reducible show wpAny _ _ (call (Value.ref 129) _) _ _ _) | (with_reducible show wpAny _ _ (call (Value.ref 105) _) _ _ _) | (with_reducible show wpAny _ _ (call (Value.ref 112) _) _ _ _)); (refine stopAt ?_)))
local macro_rules | `(tactic| walk_at "call builtin:len") => `(tactic| (k_here; (with_reducible show wpAny _ _ (call (Value.builtin _) [Value.ref _]) _ _ _); k_dflt (refine len_good (by k_asm) (by k_mem) (by assumption) (by assumption) ?_)))
local macro_rules | `(tactic| walk_at "subscriptTail Name Name ref int") => `(tactic| (k_here; (first | k_dflt (refine sub_list (by k_asm) (by k_mem) (by with_reducible assumption) ?_) | (refine stopAt ?_))))
local macro_rules | `(tactic| walk_at "subscriptTail Name BinOp ref int") => `(tactic| (k_here; (first | k_dflt (refine sub_list (by k_asm) (by k_mem) (by with_reducible assumption) ?_) | (refine stopAt ?_))))
local macro_rules | `(tactic| walk_at "compareOp Gt ref ref") => `(tactic| (k_here; k_dflt (refine pair_gtN (by k_asm) (by k_mem) (by k_mem) (by first | units_room | exact Nat.le_of_ble_eq_true rfl) ?_)))
local macro_rules | `(tactic| walk_at "compareOp Eq ref ref") => `(tactic| (k_here; k_dflt (refine pair_eqN (by k_asm) (by k_mem) (by k_mem) (by first | units_room | exact Nat.le_of_ble_eq_true rfl) ?_)))
local macro_rules | `(tactic| walk_at "compareOp Gt bytes bytes") => `(tactic| (k_here; (refine gt_bytes ?_)))
local macro_rules | `(tactic| walk_at "exec For Name Subscript cons nil") => `(tactic| (k_here; (rename Fr _ _ _ _ => lF'); (with_unfolding_all refine' For_invVF lF' ?k1 ?k2 ?_; (case k1 => exact rfl); (case k2 => exact rfl); k_whole)))
theorem lawHolds : PySem.Challenge.rw_it0023_01.Holds := hd (by
  k_go0
  (all_goals try k_fold)
  k_steps
  refine kso_sorted (by k_asm) (by k_asm) (by assumption) (IntsAre.ofCarried (by assumption)) (filter_len _) ?_
  intro D vs good c h1 F1 N1 hlt hig hlen hperm hord hx
  have hG := good_of hperm hord
  clear hx hperm hord hlen
  rename Below _ _ _ _ => K0
  k_steps
  unfold Marked
  refine' list_loopM (ns := List.map cut (List.take 10 _) ++ [0, 255, 256]) (fun m₀ _ m => ∃ ov, m = fun y => if y = Str.ofString "number" then ov else m₀ y) rfl ?hl ?hi ?hF ?hN ?hp (fun i n t m1 h2 tk2 own hn hP F2 N2 => ?_) (fun m1 h2 tk2 hP F2 N2 => ?_)
  case hF => k_asm
  case hN => k_asm
  case hl => k_mem
  case hi => assumption
  case hp => exact ch1 fun _ _ => rfl
  · obtain ⟨ov, rfl⟩ := hP
    have hs40 : sz n ≤ 40 := nums_sz (nums_in _) (List.mem_of_getElem? hn)
    k_steps
    · unfold Marked
      have hneg : n < 0 := by assumption
      refine lf0 302 7 (some []) _ _ _ _ _ _ _ _ _ _ _ _ _ _ K0 (by k_asm) (by k_asm) (by k_asm) (by k_asm) rfl (by omega) (by decide) (by decide) (fun v h3 tk3 hv F3 N3 => ?_)
      unfold FormV at hv
      rw [if_pos hneg] at hv
      subst hv
      k_steps
      unfold Marked
      refine lf1 302 7 (some []) _ _ _ _ _ _ _ _ _ _ _ _ _ _ _ _ _ 41 _ _ K0 (by k_asm) (by k_asm) (by k_asm) (by k_asm) (by k_mem) (by k_mem) (by decide) rfl (by omega) (by decide) (by decide) (fun v h3 tk3 hv F3 N3 => ?_)
      unfold FormF at hv
      rw [if_pos (.inl hneg)] at hv
      subst hv
      k_steps
      refine ⟨_, _, _, rfl, by k_asm, news_t2 (by k_asm), ?_⟩
      exact ch1 fun y e => (if_neg e).trans (if_neg e)
    · refine ⟨_, _, _, rfl, by k_asm, by k_asm, ?_⟩
      exact ch1 fun y e => (if_neg e).trans (if_neg e)
  · obtain ⟨ov, rfl⟩ := hP
    k_steps
    unfold Marked
    refine lfT 302 7 (some []) _ _ _ _ _ _ _ _ _ _ _ _ K0 (by k_asm) (by k_asm) (by k_asm) (by k_asm) rfl (by decide) (by decide) (fun v h3 tk3 hv F3 N3 => ?_)
    subst hv
    k_steps
    unfold Marked
    refine lfB 302 7 (some []) _ _ _ _ _ _ _ _ _ _ _ _ _ _ _ _ _ 1 K0 (by k_asm) (by k_asm) (by k_asm) (by k_asm) (by k_mem) (by k_mem) rfl (by decide) (by decide) (fun v h4 tk4 hv F4 N4 => ?_)
    subst hv
    k_steps
    refine LCg.CompSrc.ledger (by rfl) (by k_asm) (news_t2 (by k_asm)) (by k_mem) (by rw [List.size_toArray, hig.length, sizeLine_eq]; have := hG.2.2.2; omega) ?_
    intro g9
    refine comp_rel FormOf hig (.inr ⟨_, by k_mem, rfl, _, rfl⟩) (fun n t I oI C oC Dl m₂ ys h5 tk5 E' hn hC hx F5 N5 => ?_) (fun ys hys => ?_)
    · have hs40 : sz n ≤ 40 := good_sz hG hn
      k_steps
      unfold Marked
      refine lf0 302 7 (some []) _ _ _ _ _ _ _ _ _ _ _ _ _ _ K0 (by k_asm) (by k_asm) (by k_asm) (by k_asm) rfl (by omega) (by decide) (by decide) (fun v h6 tk6 hv F6 N6 => ?_)
      unfold FormV at hv
      rw [if_neg (by have := hG.2.1 n hn; omega)] at hv
      exact ⟨_, _, rfl, F6, N6, hv⟩
    · intro Df h5 tk5 F5 N5 o5
      dsimp only
      k_steps
      unfold Marked
      refine' range_loopM (n := good.length) (fun m₀ _ m => ∃ o1 o2 o3, m = fun y => if y = Str.ofString "k" then o1 else if y = Str.ofString "before" then o2 else if y = Str.ofString "now" then o3 else m₀ y) rfl ?hr ?hn ?hF ?hN ?hp (fun i t m1 h6 tk6 own hi hP F6 N6 => ?_) (fun m1 h6 tk6 hP F6 N6 => ?_)
      case hF => k_asm
      case hN => k_asm
      case hr => assumption
      case hn => have := hG.2.2.2; omega
      case hp => exact ch3 fun _ _ _ _ => rfl
      · obtain ⟨o1, o2, o3, rfl⟩ := hP
        obtain ⟨gk, tg, hgk, hAk⟩ := atI_good hig hG hi
        obtain ⟨bk, tb, hBk, hbk0⟩ := atI_form hys hG hgk
        obtain ⟨fk, hfk⟩ : ∃ fk, fk = form gk := ⟨_, rfl⟩
        have hbk : KBw.bInts bk = fk := hbk0.trans hfk.symm
        have hflk : fk.length ≤ 40 := by rw [hfk, form_length]; exact good_sz hG (List.mem_of_getElem? hgk)
        clear hbk0
        have hgk0 : 0 ≤ gk := (hG.2.1 gk (List.mem_of_getElem? hgk)).1
        have hvk : KFB.value fk = gk := by rw [hfk]; exact value_form hgk0
        have hhk : fk.head? ≠ some 0 := by rw [hfk]; exact form_head hgk0
        k_steps
        · exact absurd (no_nought (by assumption) (by assumption)) hhk
        · unfold Marked
          refine des0 302 7 (some []) _ _ _ _ [] _ _ _ _ _ _ _ _ _ _ _ _ _ K0 (by k_asm) (by k_asm) (by k_asm) (by k_asm) rfl hbk (by omega) hhk (by decide) (by decide) (fun t7 h7 tk7 F7 N7 => ?_)
          rw [hvk]
          k_steps
          · exfalso
            omega
          · unfold Marked
            have hi1 : i - 1 < good.length := by omega
            have hi0 : 0 < i := by omega
            have hci : ((i - 1 : Nat) : Int) = (i : Int) - 1 := by omega
            obtain ⟨gj, tj, hgj, hAj⟩ := atI_good hig hG hi1
            obtain ⟨bj, tbj, hBj, hbj0⟩ := atI_form hys hG hgj
            obtain ⟨fj, hfj⟩ : ∃ fj, fj = form gj := ⟨_, rfl⟩
            have hbj : KBw.bInts bj = fj := hbj0.trans hfj.symm
            have hflj : fj.length ≤ 40 := by rw [hfj, form_length]; exact good_sz hG (List.mem_of_getElem? hgj)
            have hAj1 := hAj.cast hci
            have hBj1 := hBj.cast hci
            clear hbj0 hAj hBj
            k_steps
            · have h9 : pairGt (fj.length : Int) (fk.length : Int) bj bk = true := by assumption
              subst hfj hfk
              rw [pair_not_gt (hG.2.1 gj (List.mem_of_getElem? hgj)).1 (good_le hG (by omega) hgj hgk) hbj hbk] at h9
              cases h9
            · have h9 : (pairEq (fj.length : Int) (fk.length : Int) bj bk != (gj == gk)) = true := by assumption
              subst hfj hfk
              have e9 : (gj == gk) = decide (gj = gk) := by rw [Bool.eq_iff_iff]; simp
              rw [pair_eq_iff (hG.2.1 gj (List.mem_of_getElem? hgj)).1 hgk0 hbj hbk, e9, bne_self_eq_false] at h9
              cases h9
            · refine ⟨_, _, _, rfl, by k_asm, fun p hp => (by assumption : News _ _ _ (_ :: _ :: _ :: _)) p (List.Mem.tail _ (List.Mem.tail _ (List.Mem.tail _ hp))), ?_⟩
              exact ch3 fun y e1 e2 e3 => (if_neg e2).trans ((if_neg e3).trans ((if_neg e1).trans ((if_neg e1).trans ((if_neg e2).trans (if_neg e3)))))
          · refine ⟨_, _, _, rfl, by k_asm, by k_asm, ?_⟩
            exact ch3 fun y e1 e2 e3 => (if_neg e1).trans ((if_neg e1).trans ((if_neg e2).trans (if_neg e3)))
      · obtain ⟨o1, o2, o3, rfl⟩ := hP
        dsimp only
        refine' cut_size ?hF ?hN ?h1 (fun n tn h8 tk8 hn F8 N8 => ?_)
        case hF => k_asm
        case hN => k_asm
        case h1 =>
          have hgl := hG.2.2.1
          obtain ⟨gl, tl, hgl2, hAl⟩ := atI_good hig hG (i := good.length - 1) (by omega)
          have hAl1 := hAl.cast (show ((good.length - 1 : Nat) : Int) = (good.length : Int) - 1 by omega)
          clear hAl
          k_steps
          · refine' size_intro ?zF1 ?zs1 ?zo1 ?zN1 ?za1 ?zb1
            case zF1 => k_asm
            case zs1 => exact rfl
            case zo1 => exact fun y e => (if_neg e).trans (if_neg e)
            case zN1 => k_asm
            case za1 => rw [sz_eq]; omega
            case zb1 => rw [sz_eq]; have := good_sz hG (List.mem_of_getElem? hgl2); omega
          · refine' size_intro ?zF2 ?zs2 ?zo2 ?zN2 ?za2 ?zb2
            case zF2 => k_asm
            case zs2 => exact rfl
            case zo2 => exact fun y e => if_neg e
            case zN2 => k_asm
            case za2 => exact Int.fmod_nonneg_of_pos _ (by decide)
            case zb2 => exact Int.le_of_lt (Int.lt_of_lt_of_le (Int.fmod_lt_of_pos _ (by decide)) (by decide))
          · refine' size_intro ?zF3 ?zs3 ?zo3 ?zN3 ?za3 ?zb3
            case zF3 => k_asm
            case zs3 => exact rfl
            case zo3 => exact fun y e => if_neg e
            case zN3 => k_asm
            case za3 => decide
            case zb3 => decide
        k_steps
        unfold Marked
        refine' list_loopM (ns := good) (fun m₀ i m => ∃ o1 o2 lv, LastP n good i lv ∧ m = fun y => if y = Str.ofString "number" then o1 else if y = Str.ofString "form" then o2 else if y = Str.ofString "last" then some lv else m₀ y) rfl ?hl ?hi ?hF ?hN ?hp (fun i gk tg m1 h9 tk9 own hgk hP F9 N9 => ?_) (fun m1 h9 tk9 hP F9 N9 => ?_)
        case hF => k_asm
        case hN => k_asm
        case hl => k_mem
        case hi => assumption
        case hp => exact last_intro (.inl rfl) rfl (fun _ _ _ _ => rfl)
        · obtain ⟨o1, o2, lv, hlv, rfl⟩ := hP
          have hgk0 : 0 ≤ gk := (hG.2.1 gk (List.mem_of_getElem? hgk)).1
          have hgs : sz gk ≤ 40 := good_sz hG (List.mem_of_getElem? hgk)
          k_steps
          unfold Marked
          refine lf1 302 7 (some []) _ _ _ _ _ _ _ _ _ _ _ _ _ _ _ _ _ n _ _ K0 (by k_asm) (by k_asm) (by k_asm) (by k_asm) (by k_mem) (by k_mem) (by omega) rfl (by omega) (by decide) (by decide) (fun v h10 tk10 hv F10 N10 => ?_)
          unfold FormF at hv
          by_cases hbig : (256 : Int) ^ n ≤ gk
          · rw [if_pos (.inr hbig)] at hv
            subst hv
            k_steps
            · have h9 : (true != decide ((256 : Int) ^ ((n : Int)).toNat ≤ gk)) = true := by assumption
              rw [Int.toNat_natCast, decide_eq_true hbig] at h9
              cases h9
            · refine ⟨_, _, _, rfl, by k_asm, by k_asm, ?_⟩
              exact last_intro hlv.mono rfl (fun y e1 e2 e3 => (if_neg e2).trans ((if_neg e1).trans ((if_neg e1).trans ((if_neg e2).trans (if_neg e3)))))
          · rw [if_neg (by omega)] at hv
            obtain ⟨bv, tv, rfl, hbv0⟩ := hv
            obtain ⟨ff, hff⟩ : ∃ ff, ff = fform n gk := ⟨_, rfl⟩
            have hbv : KBw.bInts bv = ff := hbv0.trans hff.symm
            have hfl : ff.length = n := by rw [hff]; exact fform_length hgk0 (by omega)
            have hfl4 : ff.length ≤ 40 := by omega
            have hfv : KFB.value ff = gk := by rw [hff]; exact fform_value n hgk0
            have hnew : ∀ t, LastP n good (i + 1) (.bytes bv t) := fun t => .inr ⟨bv, t, gk, i, by omega, hgk, by omega, rfl, hbv0⟩
            clear hbv0
            rcases hlv with rfl | ⟨bl, tbl, xl, jl, hjl, hxl, hxl2, rfl, hbl⟩
            · k_steps
              · have h9 : (false != decide ((256 : Int) ^ ((n : Int)).toNat ≤ gk)) = true := by assumption
                rw [Int.toNat_natCast, decide_eq_false hbig] at h9
                cases h9
              · exact absurd hfl (by omega)
              unfold Marked
              refine des1 302 7 (some []) _ _ _ _ [] _ _ _ _ _ _ _ _ _ _ _ _ _ _ _ _ _ _ n K0 (by k_asm) (by k_asm) (by k_asm) (by k_asm) (by k_mem) (by k_mem) rfl hbv (by omega) hfl (by decide) (by decide) (fun t11 h11 tk11 F11 N11 => ?_)
              rw [hfv]
              k_steps
              · exfalso
                omega
              · refine ⟨_, _, _, rfl, by k_asm, by k_asm, ?_⟩
                exact last_intro (hnew _) rfl (fun y e1 e2 e3 => (if_neg e3).trans ((if_neg e2).trans ((if_neg e1).trans ((if_neg e1).trans ((if_neg e2).trans (if_neg e3))))))
            · k_steps
              · have h9 : (false != decide ((256 : Int) ^ ((n : Int)).toNat ≤ gk)) = true := by assumption
                rw [Int.toNat_natCast, decide_eq_false hbig] at h9
                cases h9
              · exact absurd hfl (by omega)
              unfold Marked
              refine des1 302 7 (some []) _ _ _ _ [] _ _ _ _ _ _ _ _ _ _ _ _ _ _ _ _ _ _ n K0 (by k_asm) (by k_asm) (by k_asm) (by k_asm) (by k_mem) (by k_mem) rfl hbv (by omega) hfl (by decide) (by decide) (fun t11 h11 tk11 F11 N11 => ?_)
              rw [hfv]
              k_steps
              · exfalso
                omega
              · exfalso
                have h9 : (Builtin.Bytes.order bl.toList bv.toList == .gt) = true := by assumption
                have hx0 := (hG.2.1 xl (List.mem_of_getElem? hxl)).1
                rw [bytes_le hbl hbv (by rw [fform_length hx0 hxl2, hfl]) (by rw [fform_value n hx0, hfv]; exact good_le hG hjl hxl hgk)] at h9
                cases h9
              · refine ⟨_, _, _, rfl, by k_asm, by k_asm, ?_⟩
                exact last_intro (hnew _) rfl (fun y e1 e2 e3 => (if_neg e3).trans ((if_neg e2).trans ((if_neg e1).trans ((if_neg e1).trans ((if_neg e2).trans (if_neg e3))))))
        · obtain ⟨o1, o2, lv, hlv, rfl⟩ := hP
          k_steps
          unfold Marked
          refine' list_loopM (ns := List.take 10 _) (fun m₀ _ m => ∃ o1 o2 o3 o4, m = fun y => if y = Str.ofString "number" then o1 else if y = Str.ofString "octets" then o2 else if y = Str.ofString "least" then o3 else if y = Str.ofString "fixed" then o4 else m₀ y) rfl ?hl ?hi ?hF ?hN ?hp (fun i x tx m1 h12 tk12 own hx hP F12 N12 => ?_) (fun m1 h12 tk12 hP F12 N12 => ?_)
          case hF => k_asm
          case hN => k_asm
          case hl => k_mem
          case hi => assumption
          case hp => exact ch4 fun _ _ _ _ _ => rfl
          · obtain ⟨p1, p2, p3, p4, rfl⟩ := hP
            have hq0 : 0 ≤ x.fmod 8 := Int.fmod_nonneg_of_pos x (by decide)
            have hq1 : x.fmod 8 < 8 := Int.fmod_lt_of_pos x (by decide)
            obtain ⟨q, hq⟩ : ∃ q : Nat, x.fmod 8 = (q : Int) := ⟨(x.fmod 8).toNat, by omega⟩
            k_steps
            unfold Marked
            rw [hq]
            refine lo 302 7 (some []) _ _ _ _ [] _ _ _ _ _ _ _ _ _ _ _ _ _ q K0 (by k_asm) (by k_asm) (by k_asm) (by k_asm) rfl (by omega) (by decide) (by decide) (fun bo to h13 tk13 hbo0 F13 N13 => ?_)
            obtain ⟨ks, hks⟩ : ∃ ks, ks = KTBy.little q (x.fdiv 8) := ⟨_, rfl⟩
            have hbo : KBw.bInts bo = ks := hbo0.trans hks.symm
            have hkl : ks.length = q := by rw [hks, KTBy.little_length]
            have hkin : KBa.In ks := by rw [hks]; exact little_inL _ _
            have hkl50 : ks.length ≤ 40 := by omega
            have hvb := value_bounds ks hkin
            clear hbo0
            k_steps
            unfold Marked
            refine lv0 302 7 (some []) _ _ _ _ _ _ _ _ _ _ _ _ _ _ _ K0 (by k_asm) (by k_asm) (by k_asm) (by k_asm) rfl hbo (by omega) (by decide) (by decide) (fun v1 h14 tk14 hv1 F14 N14 => ?_)
            unfold ValV at hv1
            by_cases hh : ks.head? = some 0
            · rw [if_pos hh] at hv1
              subst hv1
              k_steps
              · have h9 : (true != ((KBy.picked bo none (some 1)).toList == (#[(0 : UInt8)]).toList)) = true := by assumption
                rw [slice_is0 (slice_head1 (ks := ks) (by assumption)), decide_eq_true hh] at h9
                cases h9
              unfold Marked
              refine lv1 302 7 (some []) _ _ _ _ _ _ _ _ _ _ _ _ _ _ _ _ _ _ _ _ n K0 (by k_asm) (by k_asm) (by k_asm) (by k_asm) (by k_mem) (by k_mem) rfl hbo (by omega) (by decide) (by decide) (fun v2 h16 tk16 hv2 F16 N16 => ?_)
              unfold ValF at hv2
              by_cases hn9 : ks.length = n
              · rw [if_neg (fun h => h hn9)] at hv2
                obtain ⟨t2, rfl⟩ := hv2
                k_steps
                · have h9 : (false != ((ks.length : Int) != (n : Int))) = true := by assumption
                  rw [hn9, bne_self_eq_false] at h9
                  cases h9
                unfold Marked
                refine ser1 302 7 (some []) _ _ _ _ [] _ _ _ _ _ _ _ _ _ _ _ _ _ _ _ _ _ n K0 (by k_asm) (by k_asm) (by k_asm) (by k_asm) (by k_mem) (by k_mem) (by omega) rfl hvb.1 (by rw [← hn9]; exact hvb.2) (by decide) (by decide) (fun b4 t4 h17 tk17 hb4 F17 N17 => ?_)
                rw [fform_of hkin hn9] at hb4
                k_steps
                · have h9 : (b4.toList != bo.toList) = true := by assumption
                  rw [(toList_eq_iff hb4 hbo).mpr rfl, bne_self_eq_false] at h9
                  cases h9
                · refine ⟨_, _, _, rfl, by k_asm, by k_asm, ?_⟩
                  exact ch4 fun y e1 e2 e3 e4 => (if_neg e4).trans ((if_neg e3).trans ((if_neg e2).trans ((if_neg e1).trans ((if_neg e1).trans ((if_neg e2).trans ((if_neg e3).trans (if_neg e4)))))))
              · rw [if_pos hn9] at hv2
                subst hv2
                k_steps
                · have h9 : (true != ((ks.length : Int) != (n : Int))) = true := by assumption
                  have e9 : ((ks.length : Int) != (n : Int)) = true := bne_iff_ne.mpr (by omega)
                  rw [e9] at h9
                  cases h9
                · refine ⟨_, _, _, rfl, by k_asm, by k_asm, ?_⟩
                  exact ch4 fun y e1 e2 e3 e4 => (if_neg e4).trans ((if_neg e3).trans ((if_neg e2).trans ((if_neg e1).trans ((if_neg e1).trans ((if_neg e2).trans ((if_neg e3).trans (if_neg e4)))))))
            · rw [if_neg hh] at hv1
              obtain ⟨t1, rfl⟩ := hv1
              have hfo := form_value hkin hh
              k_steps
              · have h9 : (false != ((KBy.picked bo none (some 1)).toList == (#[(0 : UInt8)]).toList)) = true := by assumption
                rw [slice_is0 (slice_head1 (ks := ks) (by assumption)), decide_eq_false hh] at h9
                cases h9
              unfold Marked
              refine ser0 302 7 (some []) _ _ _ _ [] _ _ _ _ _ _ _ _ _ _ _ _ K0 (by k_asm) (by k_asm) (by k_asm) (by k_asm) rfl hvb.1 (by omega) (by decide) (by decide) (fun b3 t3 h15 tk15 hb3 F15 N15 => ?_)
              rw [hfo.1] at hb3
              k_steps
              · have h9 : (b3.toList != bo.toList) = true := by assumption
                rw [(toList_eq_iff hb3 hbo).mpr rfl, bne_self_eq_false] at h9
                cases h9
              unfold Marked
              refine lv1 302 7 (some []) _ _ _ _ _ _ _ _ _ _ _ _ _ _ _ _ _ _ _ _ n K0 (by k_asm) (by k_asm) (by k_asm) (by k_asm) (by k_mem) (by k_mem) rfl hbo (by omega) (by decide) (by decide) (fun v2 h16 tk16 hv2 F16 N16 => ?_)
              unfold ValF at hv2
              by_cases hn9 : ks.length = n
              · rw [if_neg (fun h => h hn9)] at hv2
                obtain ⟨t2, rfl⟩ := hv2
                k_steps
                · have h9 : (false != ((ks.length : Int) != (n : Int))) = true := by assumption
                  rw [hn9, bne_self_eq_false] at h9
                  cases h9
                unfold Marked
                refine ser1 302 7 (some []) _ _ _ _ [] _ _ _ _ _ _ _ _ _ _ _ _ _ _ _ _ _ n K0 (by k_asm) (by k_asm) (by k_asm) (by k_asm) (by k_mem) (by k_mem) (by omega) rfl hvb.1 (by rw [← hn9]; exact hvb.2) (by decide) (by decide) (fun b4 t4 h17 tk17 hb4 F17 N17 => ?_)
                rw [fform_of hkin hn9] at hb4
                k_steps
                · have h9 : (b4.toList != bo.toList) = true := by assumption
                  rw [(toList_eq_iff hb4 hbo).mpr rfl, bne_self_eq_false] at h9
                  cases h9
                · refine ⟨_, _, _, rfl, by k_asm, by k_asm, ?_⟩
                  exact ch4 fun y e1 e2 e3 e4 => (if_neg e4).trans ((if_neg e3).trans ((if_neg e2).trans ((if_neg e1).trans ((if_neg e1).trans ((if_neg e2).trans ((if_neg e3).trans (if_neg e4)))))))
              · rw [if_pos hn9] at hv2
                subst hv2
                k_steps
                · have h9 : (true != ((ks.length : Int) != (n : Int))) = true := by assumption
                  have e9 : ((ks.length : Int) != (n : Int)) = true := bne_iff_ne.mpr (by omega)
                  rw [e9] at h9
                  cases h9
                · refine ⟨_, _, _, rfl, by k_asm, by k_asm, ?_⟩
                  exact ch4 fun y e1 e2 e3 e4 => (if_neg e4).trans ((if_neg e3).trans ((if_neg e2).trans ((if_neg e1).trans ((if_neg e1).trans ((if_neg e2).trans ((if_neg e3).trans (if_neg e4)))))))
          · obtain ⟨p1, p2, p3, p4, rfl⟩ := hP
            k_steps)
end Mine
end

theorem PySem.Challenge.cw_it0023_01_holds : PySem.Challenge.rw_it0023_01.Holds :=
  Mine.lawHolds
