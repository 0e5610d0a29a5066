import PyProof.Rows.All
import Wide.All
import OpenK.AllK
import Wide.FinOn
import PySem.Challenge.RW_fe0233_01
set_option Elab.async false

noncomputable section
open PySem PySem.W PyProof.Rows
namespace Mine
set_option maxRecDepth 100000 in
set_option maxHeartbeats 8000000 in
open_top hd for PySem.Challenge.rw_fe0233_01
end Mine
end

noncomputable section
open PySem PySem.W PyProof.Rows PySem.Builtin
set_option maxRecDepth 100000
namespace Mine
theorem pack_kind : builtinKind "_struct.pack" = none := by decide +kernel
theorem pack_plain : plainId "_struct.pack" = true := by decide +kernel
theorem pack_entry : entryFor table "_struct.pack" = some Builtin.«_struct.pack» := entryFor_of_tree (by kernel_rfl)
theorem pack_args (a b : Value) : argsOk "_struct.pack" ⟨[a, b], []⟩ := by unfold argsOk; kernel_rfl
def packFmt : Struct.Format := ⟨true, false, [⟨'B', 1, 0, 1⟩], 1, 1⟩
theorem pack_fmt (t : Tok) : Struct.moduleFormat (.str (Str.ofString ">B") t) = pure packFmt := by kernel_rfl
theorem ord_bytes (c : UInt8) (t : Tok) : Gives («ord» ⟨[.bytes #[c] t], []⟩) (.int c.toNat) := .of_eq rfl
theorem pack_run {M : Model} {A : Around} {E : Value → Shared → Prop} {s : Shared} {n : Int} {t u : Tok} {Q : Fin → Shared → Prop} (h0 : 0 ≤ n) (h1 : n < 256)
   (h : Q (.done (.ret (.bytes #[n.toNat.toUInt8] s.toks))) { s with toks := s.toks + 1 }) :
   wpAny M A (Builtin.«_struct.pack» ⟨[.str (Str.ofString ">B") t, .int n u], []⟩) Q E s := by
  unfold Builtin.«_struct.pack»
  refine wpAny_bind (wpAny_of_eq (a := ()) rfl ?_)
  show wpAny _ _ (Struct.moduleFormat (.str (Str.ofString ">B") t) >>= fun f => Struct.packed "_struct.pack" "pack" f [.int n u]) _ _ _
  refine wpAny_bind (wpAny_of_eq (pack_fmt t) ?_)
  unfold Struct.packed
  refine wpAny_ite_false rfl ?_
  refine wpAny_ite_false (by decide +kernel) ?_
  obtain ⟨hp, g, d, tk, os⟩ := s
  have hc : (decide (n < 0) || decide (n > 255)) = false := by simp; omega
  have hb : Struct.intBytes true 1 n = #[n.toNat.toUInt8] := by
    show ((([n % 2 ^ 8].map fun (z : Int) => (z.toNat / 256 ^ 0 % 256).toUInt8).toArray).reverse) = _
    have e : n % 2 ^ 8 = n := by omega
    have e2 : n.toNat / 256 ^ 0 % 256 = n.toNat := by rw [Nat.pow_zero, Nat.div_one]; omega
    show #[((n % 2 ^ 8).toNat / 256 ^ 0 % 256).toUInt8] = _
    rw [e, e2]
  show wpAny M A (Struct.packEach _ _ _ _ _ >>= fun x => _) _ _ _
  refine wpAny_bind ?_
  unfold Struct.packEach
  repeat (any_goals (first | assumption | (rw [KPc.range_list]; with_unfolding_all refine KPc.turn (l := []) (x := 0) ?_) | wp_step))
  have e : Struct.intBytes packFmt.bigEndian (⟨'B', 1, 0, 1⟩ : Struct.Code).size n = #[n.toNat.toUInt8] := hb
  rw [e]
  exact h
theorem call_pack {prog : Program} {w : World} {A : Around} {E : Value → Shared → Prop} {s : Shared} {n : Int} {t u : Tok} {Q : Value → Shared → Prop} (h0 : 0 ≤ n) (h1 : n < 256)
    (h : ∀ t' k, Q (.bytes #[n.toNat.toUInt8] t') { s with toks := k }) : wpAny (model prog w) A (call (.builtin "_struct.pack") [.str (Str.ofString ">B") t, .int n u]) Q E s :=
  Calls.call_function_entry pack_kind pack_plain pack_entry (pack_args _ _) (pack_run h0 h1 ⟨_, rfl, h _ _⟩)
theorem call_ord {prog : Program} {w : World} {A : Around} {E : Value → Shared → Prop} {s : Shared} {c : UInt8} {t : Tok} {Q : Value → Shared → Prop} 
    (h : ∀ t' k, Q (.int c.toNat t') { s with toks := k }) : wpAny (model prog w) A (call (.builtin "ord") [.bytes #[c] t]) Q E s :=
  call_function_meets F.kind_ord F.plain_ord F.entry_ord (F.args_ord1 _) (ord_bytes c t).meets (h _ _)
end Mine
end

noncomputable section
open PySem PySem.W PyProof.Rows PySem.Builtin PySem.Builtin.Str
set_option maxRecDepth 100000
namespace Mine
def hexDigs (n : Nat) : List Nat := (Nat.toDigits 16 n).map Char.toNat
def hexStr (n : Nat) : PySem.Str := ⟨(hexDigs n).toArray⟩
theorem x_sign : Str.ofString "%x" = ⟨#[37, 120]⟩ := by decide +kernel
theorem x_text {c : Percent} (h1 : c.alt = false) (h2 : c.type = 120) (h3 : c.prec = none) {n : Int} (hn : 0 ≤ n) (d : List Nat) : percentInt c (decide (n < 0)) d = d := by
  have hneg : decide (n < 0) = false := decide_eq_false (by omega)
  unfold percentInt
  simp [h1, h2, h3, hneg]
theorem x_meets {n : Int} (h0 : 0 ≤ n) (hlen : (hexDigs n.natAbs).length ≤ 1000000) (t u : Tok) :
    Meets («str.__mod__» ⟨[.str ⟨#[37, 120]⟩ t, .int n u], []⟩) (fun _ R s => ∀ t' k, R (.ok (.ret (.str (hexStr n.natAbs) t'))) { s with toks := k }) := by
  apply KPc.meets_of
  intro prog w A s Q E hQ
  rw [KPc.entry_is]
  unfold Builtin.Str.percentFormat
  refine wpAny_bind (wpAny_isInstance (typeIs_int _ _ _) F.sub_int_tuple ?_)
  refine wpAny_bind (wpAny_of_eq (a := none) rfl ?_)
  refine wpAny_bind (wpAny_of_eq (KPc.fills _ _) ?_)
  kpc_if
  refine wpAny_bind (wpAny_pure ?_)
  refine wpAny_bind ?_
  rw [KPc.range_list]
  refine KPc.start ?_
  intro w' g0
  refine KPc.turn ?_
  kpc_check
  (repeat kpc_if)
  refine wpAny_bind ?_
  refine wpAny_holding ?_
  (repeat kpc_if)
  refine wpAny_bind (wpAny_of_eq (a := n) rfl ?_)
  (repeat kpc_if)
  refine wpAny_bind (wpAny_pure ?_)
  refine wpAny_pure ?_
  rw [x_text (n := n) rfl rfl rfl h0]
  show wpAny _ _ (pure (ForInStep.yield (([] : List Value), w'.add ⟨(hexStr n.natAbs).cps.toList.toArray⟩ none, ([] : List Nat)))) _ _ _
  refine wpAny_pure ?_
  refine KPc.after_str0 (K := 1000000) g0 hlen (KPc.obj_none rfl) ?_
  intro w2 g2
  refine KPc.turn ?_
  kpc_check
  (repeat kpc_if)
  refine wpAny_pure ?_
  kpc_if
  exact KPc.finish_ok g2 (by decide +kernel) rfl hQ
theorem binop_x {prog : Program} {w : World} {A : Around} {E : Value → Shared → Prop} {s : Shared} {n : Int} {t u : Tok} {Q : Value → Shared → Prop} (h0 : 0 ≤ n) (hlen : (hexDigs n.natAbs).length ≤ 1000000) (hd : n.natAbs.log2 < 1920)
    (h : ∀ t' k, Q (.str (hexStr n.natAbs) t') { s with toks := k }) : wpAny (model prog w) A (binaryOp .Mod (.str (Str.ofString "%x") t) (.int n u)) Q E s :=
  KPc.mod_lit x_sign hd (fun _ _ => x_meets h0 hlen t u) h
end Mine
end

noncomputable section
open PySem PySem.W PyProof.Rows PySem.Builtin PySem.Builtin.Str PySem.Builtin._codecs
set_option maxRecDepth 100000
namespace Mine
def chB (ds : List Nat) : List UInt8 := ds.map fun c => c.toUInt8
theorem fold_app (c : TextCodec) (h : ∀ x, x < 128 → c.bytesOf x = [x.toUInt8]) : ∀ (ds : List Nat) (acc : Array UInt8), (∀ x ∈ ds, x < 128) →
    ds.foldl (fun acc y => acc ++ (c.bytesOf y).toArray) acc = acc ++ (chB ds).toArray
  | [], acc, _ => by simp [chB]
  | d :: r, acc, hd => by
    rw [List.foldl_cons, fold_app c h r _ fun x hx => hd x (.tail _ hx), h d (hd d (.head _))]
    apply Array.ext'
    simp [chB]
theorem narrow_run {M : Model} {A : Around} {E : Value → Shared → Prop} {s : Shared} {id : String} {c : TextCodec} {errors : Option Str} {self : Value} {ds : List Nat} {Q : Array UInt8 → Shared → Prop}
    (hb : ∀ x, x < 128 → c.bytesOf x = [x.toUInt8]) (hg : ∀ x, x < 128 → c.bad x = false) (hd : ∀ x ∈ ds, x < 128) (hsize : (chB ds).toArray.size ≤ sizeLine) (h : Q (chB ds).toArray s) :
    wpAny M A (encodeNarrow id c errors self ⟨ds.toArray⟩) Q E s := by
  unfold encodeNarrow
  refine wpAny_bind ?_
  rw [KPc.range_list]
  have hl : (⟨ds.toArray⟩ : PySem.Str).length = ds.length := by simp [PySem.Str.length]
  rw [hl]
  cases ds with
  | nil =>
    refine wpAny_pure ?_
    exact wpAny_pure h
  | cons d r =>
    refine KPc.turn ?_
    refine wpAny_ite (KPc.ite_no (by show ¬ (0 > sizeLine); exact Nat.not_lt_zero _) ?_)
    have hbd : c.bad d = false := hg d (hd d (.head _))
    refine wpAny_ite (KPc.ite_yes (by show (!c.bad d) = true; rw [hbd]; rfl) ?_)
    have hrest : (⟨(d :: r).toArray⟩ : PySem.Str).cps.extract (0, (#[] : Array UInt8), ({} : Faults)).fst (⟨(d :: r).toArray⟩ : PySem.Str).cps.size = (d :: r).toArray := by
      show (d :: r).toArray.extract 0 (d :: r).toArray.size = _
      rw [Array.extract_size]
    have hfind : Array.findIdx? c.bad (d :: r).toArray = none := by
      rw [Array.findIdx?_eq_none_iff]
      intro x hx
      exact hg x (hd x (by simpa using hx))
    rw [hrest]
    dsimp only
    rw [hfind]
    show wpAny M A (pure (ForInStep.yield (0 + (d :: r).toArray.size, ((d :: r).toArray.extract 0 (d :: r).toArray.size).foldl (fun acc y => acc ++ (c.bytesOf y).toArray) #[], ({} : Faults)))) _ _ _
    have hout : ((d :: r).toArray.extract 0 (d :: r).toArray.size).foldl (fun acc y => acc ++ (c.bytesOf y).toArray) #[] = (chB (d :: r)).toArray := by
      rw [Array.extract_size, ← Array.foldl_toList]
      show (d :: r).foldl _ _ = _
      rw [fold_app c hb _ _ hd, Array.empty_append]
    rw [hout]
    refine wpAny_pure ?_
    show wpAny M A (forIn (List.range' (0 + 1) r.length) _ _) _ _ _
    cases r with
    | nil => exact wpAny_pure (wpAny_pure h)
    | cons d2 r2 =>
      refine KPc.turn ?_
      have hsz : (chB (d :: d2 :: r2)).toArray.size ≤ sizeLine := hsize
      refine wpAny_ite (KPc.ite_no (by show ¬ ((chB (d :: d2 :: r2)).toArray.size > sizeLine); exact Nat.not_lt.mpr hsz) ?_)
      have hnone : (⟨(d :: d2 :: r2).toArray⟩ : PySem.Str).cps[0 + (d :: d2 :: r2).toArray.size]? = none := by simp
      dsimp only
      rw [hnone]
      exact wpAny_pure (wpAny_pure h)
theorem chB_length (ds : List Nat) : (chB ds).length = ds.length := by simp [chB]
theorem ascii_bad (x : Nat) (h : x < 128) : asciiCodec.bad x = false := decide_eq_false (by omega)
theorem utf8_bad (x : Nat) (h : x < 128) : utf8Codec.bad x = false := by
  revert x; decide
theorem utf8_of (x : Nat) (h : x < 128) : utf8Codec.bytesOf x = [x.toUInt8] := by
  revert x; decide +kernel
theorem enc_u {n : String} {c : TextCodec} (t u : Tok) (x : PySem.Str) (hn : ∀ id self (y : PySem.Str) errors, encodeRoad id self y (Str.ofString n) errors = (do mkBytes (← encodeNarrow id c errors self y)))
    (hc : codecArg "str.encode" "encode" "'encoding'" (some (.str (Str.ofString n) u)) = pure (some (Str.ofString n))) :
    «str.encode» ⟨[.str x t, .str (Str.ofString n) u], []⟩ = (do ret (← (do mkBytes (← encodeNarrow "str.encode" c none (.str x t) x)))) := by
  show (codecArg "str.encode" "encode" "'encoding'" (some (.str (Str.ofString n) u)) >>= fun e => _) = _
  rw [hc]
  show (encodeRoad "str.encode" (.str x t) x (Str.ofString n) none >>= fun v => ret v) = _
  rw [hn]
theorem road8 (id : String) (self : Value) (y : PySem.Str) (errors : Option Str) : encodeRoad id self y (Str.ofString "utf8") errors = (do mkBytes (← encodeNarrow id utf8Codec errors self y)) := by kernel_rfl
theorem roadA (id : String) (self : Value) (y : PySem.Str) (errors : Option Str) : encodeRoad id self y (Str.ofString "ascii") errors = (do mkBytes (← encodeNarrow id asciiCodec errors self y)) := by kernel_rfl
theorem carg8 (u : Tok) : codecArg "str.encode" "encode" "'encoding'" (some (.str (Str.ofString "utf8") u)) = pure (some (Str.ofString "utf8")) := by kernel_rfl
theorem cargA (u : Tok) : codecArg "str.encode" "encode" "'encoding'" (some (.str (Str.ofString "ascii") u)) = pure (some (Str.ofString "ascii")) := by kernel_rfl
section
variable {prog : Program} {w : World} {A : Around} {E : Value → Shared → Prop} {s : Shared} {ds : List Nat} {t u : Tok} {Q : Value → Shared → Prop}
theorem call_encode8 (hd : ∀ x ∈ ds, x < 128) (hz : ds.length ≤ sizeLine) (h : ∀ t' k, Q (.bytes (chB ds).toArray t') { s with toks := k }) :
    wpAny (model prog w) A (call (.builtin "str.encode") [.str ⟨ds.toArray⟩ t, .str (Str.ofString "utf8") u]) Q E s := by
  refine wpAny_call_entry F.slot_str_encode (typeIs_str _ _ _) F.entry_str_encode ?_ (F.args_str_encode_2 _ _)
  rw [enc_u t u _ road8 (carg8 u)]
  refine wpAny_bind (wpAny_bind (narrow_run utf8_of utf8_bad hd (by simpa [chB_length] using hz) ?_))
  exact wpAny_mkBytes (wpAny_pure ⟨_, rfl, h _ _⟩) (by simpa [chB_length] using hz)
theorem call_encodeA (hd : ∀ x ∈ ds, x < 128) (hz : ds.length ≤ sizeLine) (h : ∀ t' k, Q (.bytes (chB ds).toArray t') { s with toks := k }) :
    wpAny (model prog w) A (call (.builtin "str.encode") [.str ⟨ds.toArray⟩ t, .str (Str.ofString "ascii") u]) Q E s := by
  refine wpAny_call_entry F.slot_str_encode (typeIs_str _ _ _) F.entry_str_encode ?_ (F.args_str_encode_2 _ _)
  rw [enc_u t u _ roadA (cargA u)]
  refine wpAny_bind (wpAny_bind (narrow_run (fun _ _ => rfl) ascii_bad hd (by simpa [chB_length] using hz) ?_))
  exact wpAny_mkBytes (wpAny_pure ⟨_, rfl, h _ _⟩) (by simpa [chB_length] using hz)
end
end Mine
end

noncomputable section
open PySem PySem.W PyProof.Rows PySem.Builtin PySem.NumText
set_option maxRecDepth 100000
namespace Mine
def IsHex (c : Nat) : Prop := (48 ≤ c ∧ c ≤ 57) ∨ (97 ≤ c ∧ c ≤ 102)
def hv (c : Nat) : Nat := if c ≤ 57 then c - 48 else c - 87
def AllHex (cs : List Nat) : Prop := ∀ c ∈ cs, IsHex c
theorem hv_lt {c : Nat} (h : IsHex c) : hv c < 16 := by unfold hv; unfold IsHex at h; split <;> omega
theorem hex_digit {c : Nat} (h : IsHex c) : digit? c = some (hv c) := by
  unfold digit? hv
  rcases h with h | h
  · have : (decide (48 ≤ c) && decide (c ≤ 57)) = true := by simp; omega
    rw [if_pos this, if_pos h.2]
  · have a : ¬ ((decide (48 ≤ c) && decide (c ≤ 57)) = true) := by simp; omega
    have b : (decide (97 ≤ c) && decide (c ≤ 122)) = true := by simp; omega
    have d : ¬ (c ≤ 57) := by omega
    rw [if_neg a, if_pos b, if_neg d]
theorem hex_blank {c : Nat} (h : IsHex c) : blank c = false := by
  unfold blank; unfold IsHex at h
  have h1 : (c == 32) = false := by simp; omega
  have h2 : (decide (9 ≤ c) && decide (c ≤ 13)) = false := by simp; omega
  rw [h1, h2]; rfl
theorem hex_step {ds : Array Nat} {b : Bool} {c : Nat} (h : IsHex c) : NumText.step 16 (ds, b) c = some (ds.push (hv c), true) := by
  have h95 : (c == 95) = false := by unfold IsHex at h; simp; omega
  unfold NumText.step
  rw [h95, hex_digit h]
  simp [hv_lt h]
theorem hex_fold : ∀ (cs : List Nat) (ds : Array Nat), AllHex cs → cs.foldlM (NumText.step 16) (ds, true) = some (cs.foldl (fun acc c => acc.push (hv c)) ds, true)
  | [], _, _ => rfl
  | c :: cs, ds, h => by
    rw [List.foldlM_cons, hex_step (h c (.head _))]
    exact hex_fold cs _ fun x hx => h x (.tail _ hx)
theorem hex_digits {cs : List Nat} (h : AllHex cs) (hne : cs ≠ []) : digits? 16 cs = some (cs.foldl (fun acc c => acc.push (hv c)) #[]) := by
  cases cs with
  | nil => exact absurd rfl hne
  | cons c cs =>
    unfold digits?
    rw [List.foldlM_cons, hex_step (h c (.head _))]
    show Option.bind (cs.foldlM (NumText.step 16) ((#[] : Array Nat).push (hv c), true)) _ = _
    rw [hex_fold cs _ fun x hx => h x (.tail _ hx)]
    rfl
theorem hex_push : ∀ (cs : List Nat) (ds : Array Nat), (cs.foldl (fun acc c => acc.push (hv c)) ds).foldl (fun acc d => acc * 16 + d) 0 = cs.foldl (fun acc c => acc * 16 + hv c) (ds.foldl (fun acc d => acc * 16 + d) 0)
  | [], _ => rfl
  | c :: cs, ds => by
    rw [List.foldl_cons, List.foldl_cons, hex_push cs, Array.foldl_push]
theorem hex_drop {cs : List Nat} (h : AllHex cs) : cs.dropWhile blank = cs := by
  cases cs with
  | nil => rfl
  | cons c cs => rw [List.dropWhile_cons, hex_blank (h c (.head _))]; rfl
theorem hex_sign {cs : List Nat} (h : AllHex cs) : sign cs = (false, cs) := by
  cases cs with
  | nil => rfl
  | cons c cs => exact sign_of (by have := h c (.head _); unfold IsHex at this; omega) (by have := h c (.head _); unfold IsHex at this; omega)
theorem hex_prefix {cs : List Nat} (h : AllHex cs) {p : Nat} (hp : prefix? cs = some p) : p ≠ 16 := by
  unfold prefix? at hp
  split at hp
  · rename_i c r
    have hc := h c (.tail _ (.head _))
    unfold IsHex at hc
    have e : ¬ ((c == 120 || c == 88) = true) := by simp; omega
    rw [if_neg e] at hp
    repeat' split at hp
    all_goals first | (cases hp; decide) | cases hp
  · cases hp
theorem hex_based {cs : List Nat} (h : AllHex cs) : based 16 cs = (16, false, cs) := by
  unfold based
  split
  · rename_i p hp
    have hne : ((16 : Nat) == 0 || (16 : Nat) == p) = false := Bool.or_eq_false_iff.mpr ⟨rfl, beq_eq_false_iff_ne.mpr fun e => hex_prefix h hp e.symm⟩
    rw [hne]; rfl
  · rfl
theorem AllHex.rev {cs : List Nat} (h : AllHex cs) : AllHex cs.reverse := fun c hc => h c (List.mem_reverse.mp hc)
def hexVal (cs : List Nat) : Nat := cs.foldl (fun acc c => acc * 16 + hv c) 0
theorem hex_read {cs : List Nat} (h : AllHex cs) (hne : cs ≠ []) : (int_private% "readNumeral") 0 16 cs = (int_private% "Numeral.value") (hexVal cs : Int) := by
  refine (readNumeral_eq 0 16 cs).trans ?_
  rw [hex_drop h, hex_sign h]
  dsimp only
  rw [hex_based h]
  dsimp only
  rw [hex_drop h.rev, List.reverse_reverse, hex_digits h hne]
  unfold judge
  dsimp only
  rw [if_neg (by simp), if_neg (by simp), if_neg (by simp), hex_push]
  rfl
theorem takeWhile_hex {cs : List Nat} (h : AllHex cs) : cs.takeWhile (· != 0) = cs := takeWhile_all fun c hc => by
  have := h c hc
  unfold IsHex at this
  simp; omega

set_option maxHeartbeats 4000000 in
theorem int16_run {M : Model} {A : Around} {E : Value → Shared → Prop} {s : Shared} {cs : List UInt8} {t u : Tok} {Q : Fin → Shared → Prop} (h : AllHex (cs.map (·.toNat))) (hne : cs ≠ []) (hl : cs.length ≤ 640)
   (hQ : Q (.done (.ret (.int (hexVal (cs.map (·.toNat)) : Nat) s.toks))) { s with toks := s.toks + 1 }) :
   wpAny M A (Builtin.«int.__new__» ⟨[.type "int", .bytes cs.toArray t, .int 16 u], []⟩) Q E s := by
  obtain ⟨hp, g, d, tk, os⟩ := s
  have f1 := F.conv_sub_int
  have f2 := F.madeHere_int
  have hs : ((cs.map (·.toNat)).takeWhile (· != 0)).length ≤ 640 := by rw [takeWhile_hex h]; simpa using hl
  have hr : (int_private% "readNumeral") 0 16 ((cs.map (·.toNat)).takeWhile (· != 0)) = (int_private% "Numeral.value") (hexVal (cs.map (·.toNat)) : Nat) := by
    rw [takeWhile_hex h, hex_read h (by simpa using hne)]
  have ha : (((cs.map (·.toNat)).takeWhile (· != 0)).length == (cs.map (·.toNat)).length) = true := by rw [takeWhile_hex h]; simp
  have hk := KIN.Hid.mk (And.intro hs (And.intro hr ha))
  clear hs hr ha h hne hl
  repeat (any_goals (first
    | assumption
    | ((with_reducible show wpAny _ _ ((int_private% "intFromText") _ _ _) _ _ _); fail_if_success skip)
    | wp_step))
  refine wpAny_ite_true (decide_eq_true hk.out.1) ?_
  refine wpAny_bind (wpAny_pure ?_)
  dsimp only
  rw [show Int.toNat 16 = 16 from rfl]
  have h2 := hk.out.2.1
  have h3 := hk.out.2.2
  rw [h2]
  refine wpAny_ite_true ?_ ?_
  · exact decide_eq_true h3
  · refine wpAny_mkInt ?_
    refine wpAny_ite_true (by decide) ?_
    exact wpAny_pure hQ
theorem int16_new (a b : Value) : checkBuiltinCall "int.__new__" ⟨[.type "int", a, b], []⟩ = pure () := by kernel_rfl
theorem int16_typ (a b : Value) : checkTypeCall "int" ⟨[a, b], []⟩ = pure () := by kernel_rfl
theorem int16_meets {cs : List UInt8} {t u : Tok} (h : AllHex (cs.map (·.toNat))) (hne : cs ≠ []) (hl : cs.length ≤ 640) :
    Meets (Builtin.«int.__new__» ⟨[.type "int", .bytes cs.toArray t, .int 16 u], []⟩) (fun _ R s => ∀ t' k, R (.ok (.ret (.int (hexVal (cs.map (·.toNat)) : Nat) t'))) { s with toks := k }) :=
  Meets.of_wp fun _ _ _ _ _ hS => int16_run h hne hl ⟨_, rfl, hS _ _⟩
theorem call_int16 {prog : Program} {w : World} {A : Around} {E : Value → Shared → Prop} {s : Shared} {cs : List UInt8} {t u : Tok} {Q : Value → Shared → Prop} (h : AllHex (cs.map (·.toNat))) (hne : cs ≠ []) (hl : cs.length ≤ 640)
    (hQ : ∀ t' k, Q (.int (hexVal (cs.map (·.toNat)) : Nat) t') { s with toks := k }) :
    wpAny (model prog w) A (call (.type "int") [.bytes cs.toArray t, .int 16 u]) Q E s :=
  callType_new F.called_int F.newNe_int (int16_typ _ _) (int16_new _ _) (fun obj => F.args_object_init_3 obj _ _) F.entry_int_new (int16_meets h hne hl) (fun t' k => ⟨typeIs_int _ _ _, hQ t' k⟩)

def hexOut (l : List UInt8) : List Nat := l.flatMap fun c => [Bytes.hexDigit (c.toNat / 16), Bytes.hexDigit (c.toNat % 16)]
theorem hexDigit_is {n : Nat} (h : n < 16) : IsHex (Bytes.hexDigit n) := by
  unfold IsHex Bytes.hexDigit; split <;> omega
theorem hexDigit_hv {n : Nat} (h : n < 16) : hv (Bytes.hexDigit n) = n := by
  unfold hv Bytes.hexDigit; split <;> split <;> omega
theorem hexOut_all (l : List UInt8) : AllHex (hexOut l) := by
  intro c hc
  obtain ⟨x, _, hx⟩ := List.mem_flatMap.mp hc
  have h1 := x.toNat_lt
  rcases List.mem_cons.mp hx with rfl | hx
  · exact hexDigit_is (by omega)
  · rcases List.mem_cons.mp hx with rfl | hx
    · exact hexDigit_is (by omega)
    · cases hx
theorem hexOut_length (l : List UInt8) : (hexOut l).length = 2 * l.length := by
  induction l with
  | nil => rfl
  | cons c r ih =>
    show (hexOut r).length + 1 + 1 = 2 * (r.length + 1)
    omega
def valB (l : List UInt8) : Nat := l.foldl (fun acc c => acc * 256 + c.toNat) 0
theorem hexOut_fold : ∀ (l : List UInt8) (a : Nat), (hexOut l).foldl (fun acc c => acc * 16 + hv c) a = l.foldl (fun acc c => acc * 256 + c.toNat) a
  | [], _ => rfl
  | c :: r, a => by
    have h1 := c.toNat_lt
    show (hexOut r).foldl (fun acc c => acc * 16 + hv c) ((a * 16 + hv (Bytes.hexDigit (c.toNat / 16))) * 16 + hv (Bytes.hexDigit (c.toNat % 16))) = _
    rw [hexOut_fold r, hexDigit_hv (by omega), hexDigit_hv (by omega), List.foldl_cons]
    congr 1
    omega
theorem hexOut_val (l : List UInt8) : hexVal (hexOut l) = valB l := hexOut_fold l 0
theorem hex_push_fold : ∀ (l : List (UInt8 × Nat)) (out : Array Nat), l.foldl (fun (out : Array Nat) (x : UInt8 × Nat) => (out.push (Bytes.hexDigit (x.1.toNat / 16))).push (Bytes.hexDigit (x.1.toNat % 16))) out = out ++ (hexOut (l.map (·.1))).toArray
  | [], out => by simp [hexOut]
  | c :: r, out => by
    rw [List.foldl_cons, hex_push_fold r]
    apply Array.ext'
    simp [hexOut]
theorem hex_run {M : Model} {A : Around} {E : Value → Shared → Prop} {s : Shared} {l : List UInt8} {t : Tok} {Q : Fin → Shared → Prop} (hl : l.length ≤ 100000)
   (hQ : Q (.done (.ret (.str ⟨(hexOut l).toArray⟩ s.toks))) { s with toks := s.toks + 1 }) :
   wpAny M A (Builtin.«bytes.hex» ⟨[.bytes l.toArray t], []⟩) Q E s := by
  have he : (l.toArray.toList.zipIdx).foldl (fun (out : Array Nat) (x : UInt8 × Nat) => (out.push (Bytes.hexDigit (x.1.toNat / 16))).push (Bytes.hexDigit (x.1.toNat % 16))) #[] = (hexOut l).toArray := by
    rw [hex_push_fold]
    simp
  show wpAny M A (mkStr ⟨(l.toArray.toList.zipIdx).foldl (fun (out : Array Nat) (x : UInt8 × Nat) => (out.push (Bytes.hexDigit (x.1.toNat / 16))).push (Bytes.hexDigit (x.1.toNat % 16))) #[]⟩ >>= fun v => ret v) Q E s
  rw [he]
  refine wpAny_bind (wpAny_mkStr (wpAny_pure hQ) ?_)
  show (hexOut l).toArray.size ≤ sizeLine
  rw [List.size_toArray, hexOut_length, sizeLine_eq]
  omega
theorem call_hex {prog : Program} {w : World} {A : Around} {E : Value → Shared → Prop} {s : Shared} {l : List UInt8} {t : Tok} {Q : Value → Shared → Prop} (hl : l.length ≤ 100000)
   (hQ : ∀ t' k, Q (.str ⟨(hexOut l).toArray⟩ t') { s with toks := k }) :
   wpAny (model prog w) A (call (.builtin "bytes.hex") [.bytes l.toArray t]) Q E s :=
  wpAny_call_entry FB.slot_bytes_hex (typeIs_bytes _ _ _) FB.entry_bytes_hex (hex_run hl ⟨_, rfl, hQ _ _⟩) (FB.args_bytes_hex_1 _)

end Mine
end

noncomputable section
open PySem PySem.W PyProof.Rows PySem.Builtin
set_option maxRecDepth 100000
namespace Mine
theorem call_starts {prog : Program} {w : World} {A : Around} {E : Value → Shared → Prop} {s : Shared} {l : List UInt8} {c : UInt8} {t u : Tok} {Q : Value → Shared → Prop}
   (hQ : ∀ k, Q (.bool (l.head? == some c)) { s with toks := k }) :
   wpAny (model prog w) A (call (.builtin "bytes.startswith") [.bytes l.toArray t, .bytes [c].toArray u]) Q E s := by
  refine wpAny_call_entry FB.slot_bytes_startswith (typeIs_bytes _ _ _) FB.entry_bytes_startswith ?_ (FB.args_bytes_startswith_2 _ _)
  have hi : isSubtype (.type "bytes") (.type "tuple") = pure false := by rw [isSubtype_type]; kernel_rfl
  have hb : ∀ id, Bytes.buffer? id (.bytes [c].toArray u) = pure (some [c].toArray) := fun id => KBy.buffer_eq
  have hv : (if (Bytes.window l.toArray.size none none).2 - (Bytes.window l.toArray.size none none).1 < (([c].toArray).size : Int) then false
      else if false = true then l.toArray.extract ((Bytes.window l.toArray.size none none).2.toNat - [c].toArray.size) (Bytes.window l.toArray.size none none).2.toNat == [c].toArray
      else l.toArray.extract (Bytes.window l.toArray.size none none).1.toNat ((Bytes.window l.toArray.size none none).1.toNat + [c].toArray.size) == [c].toArray) = (l.head? == some c) := by
    cases l with
    | nil => rfl
    | cons x r =>
      have h1 : ¬ ((Bytes.window (x :: r).toArray.size none none).2 - (Bytes.window (x :: r).toArray.size none none).1 < (([c].toArray).size : Int)) := by
        simp [Bytes.window]
        have : ¬ ((r.length : Int) + 1 < 0) := by omega
        simp [this]
        omega
      rw [if_neg h1, if_neg Bool.false_ne_true]
      have h2 : (x :: r).toArray.extract (Bytes.window (x :: r).toArray.size none none).1.toNat ((Bytes.window (x :: r).toArray.size none none).1.toNat + [c].toArray.size) = #[x] := by
        simp [Bytes.window]
      rw [h2]
      show (#[x] == #[c]) = (some x == some c)
      by_cases h : x = c
      · subst h; simp
      · have e1 : (#[x] == #[c]) = false := by simp [h]
        have e2 : (some x == some c) = false := by simp [h]
        rw [e1, e2]
  obtain ⟨hp, g, d, tk, os⟩ := s
  repeat (any_goals (first
    | assumption
    | (with_reducible refine wpAny_of_eq (hb _) ?_)
    | wp_step))
  rw [show (Value.bool _ : Value) = _ from congrArg Value.bool hv]
  exact ⟨_, rfl, hQ _⟩
end Mine
end

noncomputable section
open PySem PySem.W PyProof.Rows PySem.Builtin
set_option maxRecDepth 100000
namespace Mine
inductive BytesAre : List Value → List (List UInt8) → Prop where
  | nil : BytesAre [] []
  | cons {l : List UInt8} {t : Tok} {vs : List Value} {ls : List (List UInt8)} : BytesAre vs ls → BytesAre (.bytes l.toArray t :: vs) (l :: ls)
theorem BytesAre.length {vs : List Value} {ls : List (List UInt8)} (h : BytesAre vs ls) : vs.length = ls.length := by
  induction h with
  | nil => rfl
  | cons _ ih => simp [ih]
theorem joined_nil : ∀ (ps : List (List UInt8)), Bytes.joined #[] (ps.map (·.toArray)) = ps.flatten.toArray := by
  have key : ∀ (ps : List (List UInt8)) (k : Nat) (out : Array UInt8),
      ((ps.map (·.toArray)).zipIdx k).foldl (fun out (x : Array UInt8 × Nat) => (if x.2 > 0 then out ++ #[] else out) ++ x.1) out = out ++ ps.flatten.toArray := by
    intro ps
    induction ps with
    | nil => intro k out; simp
    | cons p r ih =>
      intro k out
      rw [List.map_cons, List.zipIdx_cons, List.foldl_cons, ih]
      apply Array.ext'
      simp
  intro ps
  unfold Bytes.joined
  have := key ps 0 #[]
  rw [Array.empty_append] at this
  exact this
theorem total_fold : ∀ (ps : List (List UInt8)) (a : Nat), (ps.map (·.toArray)).foldl (fun (x : Nat) (y : Array UInt8) => x + y.size) a = a + ps.flatten.length
  | [], a => rfl
  | p :: r, a => by
    rw [List.map_cons, List.foldl_cons, total_fold r]
    simp; omega
theorem take_plain {M : Model} {A : Around} {E : Value → Shared → Prop} {s : Shared} {id : String} {l : Array UInt8} {t : Tok} {Q : Option (Array UInt8 × Option Value) → Shared → Prop} (h : Q (some (l, none)) s) :
    wpAny M A (Bytes.takeBufferQuiet? id (.bytes l t) 0) Q E s := by
  unfold Bytes.takeBufferQuiet? Bytes.takeBuffer?
  rw [KBy.special_eq KBy.look_buffer]
  refine wpAny_bind (wpAny_attempt ?_)
  refine wpAny_bind (wpAny_of_eq (a := some (.builtin "bytes.__buffer__")) rfl ?_)
  dsimp only
  refine wpAny_bind (wpAny_of_eq KBy.own_buffer ?_)
  refine wpAny_ite_false rfl ?_
  refine wpAny_bind (wpAny_of_eq (a := some (.builtin "bytes.__buffer__")) rfl ?_)
  refine wpAny_bind (wpAny_of_eq (a := some l) ?_ ?_)
  · show Bytes.buffer? id (.bytes l t) (full := (0 : Int) == Bytes.fullReadOnly) = pure (some l)
    have e : ((0 : Int) == Bytes.fullReadOnly) = false := by decide
    rw [e]
    exact KBy.buffer_eq
  · exact wpAny_pure (wpAny_pure h)
end Mine
end

noncomputable section
open PySem PySem.W PyProof.Rows PySem.Builtin
set_option maxRecDepth 100000
namespace Mine
theorem joinLetGo_run {M : Model} {A : Around} {E : Value → Shared → Prop} {s : Shared} {Q : Unit → Shared → Prop} (h : Q () s) : ∀ (vs : List Value) (keep : List Value), wpAny M A (Bytes.joinLetGo (vs.map fun v => (v, none)) keep) Q E s
  | [], _ => wpAny_pure h
  | v :: r, keep => by
    show wpAny M A (letGo _ _ >>= fun _ => Bytes.joinLetGo (r.map fun v => (v, none)) keep) Q E s
    exact wpAny_bind (wpAny_letGo (joinLetGo_run h r keep))
theorem noHeap {vs : List Value} {ps : List (List UInt8)} (h : BytesAre vs ps) : ((vs.map fun v => (v, (none : Option Value))).any fun x => x.1.onHeap) = false := by
  induction h with
  | nil => rfl
  | cons _ ih => rw [List.map_cons, List.any_cons, ih]; rfl
theorem BytesAre.snoc {vs : List Value} {ps : List (List UInt8)} {l : List UInt8} {t : Tok} (h : BytesAre vs ps) : BytesAre (vs ++ [.bytes l.toArray t]) (ps ++ [l]) := by
  induction h with
  | nil => exact .cons .nil
  | cons _ ih => exact .cons ih
theorem BytesAre.at {vs : List Value} {ps : List (List UInt8)} (h : BytesAre vs ps) : ∀ j, j < ps.length → ∃ l t, vs[j]? = some (.bytes l.toArray t) ∧ ps[j]? = some l := by
  induction h with
  | nil => intro j hj; exact absurd hj (Nat.not_lt_zero _)
  | cons hr ih =>
    rename_i l t vs ls
    intro j hj
    cases j with
    | zero => exact ⟨l, t, rfl, rfl⟩
    | succ j =>
      obtain ⟨l2, t2, a, b⟩ := ih j (Nat.lt_of_succ_lt_succ hj)
      exact ⟨l2, t2, by simpa using a, by simpa using b⟩
theorem BytesAre.take {vs : List Value} {ps : List (List UInt8)} (h : BytesAre vs ps) : ∀ j, BytesAre (vs.take j) (ps.take j) := by
  induction h with
  | nil => intro j; simp; exact .nil
  | cons hr ih =>
    intro j
    cases j with
    | zero => exact .nil
    | succ j => exact .cons (ih j)
theorem forIn_run {β : Type} {M : Model} {A : Around} {E : Value → Shared → Prop} {s : Shared} {f : Nat → β → Sem (ForInStep β)} {Q : β → Shared → Prop} (st : Nat → β) : ∀ (k i : Nat),
    (∀ j, i ≤ j → j < i + k → ∀ Q' : ForInStep β → Shared → Prop, Q' (.yield (st (j + 1))) s → wpAny M A (f j (st j)) Q' E s) → Q (st (i + k)) s → wpAny M A (forIn (List.range' i k 1) (st i) f) Q E s
  | 0, i, _, h => wpAny_pure h
  | k + 1, i, turn, h => by
    refine KPc.turn ?_
    refine turn i (Nat.le_refl _) (by omega) _ ?_
    refine forIn_run st k (i + 1) (fun j h1 h2 => turn j (by omega) (by omega)) ?_
    rw [show i + 1 + k = i + (k + 1) by omega]
    exact h
theorem join_run {M : Model} {A : Around} {E : Value → Shared → Prop} {s : Shared} {a : Addr} {o : Obj} {T : String} {n : Nat} {vs : List Value} {ps : List (List UInt8)} {t : Tok} {Q : Fin → Shared → Prop}
    (hT : T = "list" ∨ T = "tuple") (ho : s.heap.get? a = some o) (hc : o.cls = .type T) (hd : o.data = .seq vs.toArray n) (hp : BytesAre vs ps) (hz : ps.flatten.length ≤ sizeLine)
    (h : ∀ t' k, Q (.done (.ret (.bytes ps.flatten.toArray t'))) { s with toks := k }) :
    wpAny M A (Builtin.«bytes.join» ⟨[.bytes #[] t, .ref a], []⟩) Q E s := by
  have hty : s.TypeIs (.ref a) T := ⟨o, ho, hc⟩
  show wpAny M A (Bytes.joinItems (.ref a) >>= fun seq => _) Q E s
  refine wpAny_bind ?_
  unfold Bytes.joinItems
  refine wpAny_bind (wpAny_typeOf hty ?_)
  refine wpAny_ite_true (by rcases hT with rfl | rfl <;> decide) ?_
  refine wpAny_pure ?_
  refine wpAny_bind (wpAny_seqItems ho hd ?_)
  dsimp only
  refine wpAny_ite_true rfl ?_
  generalize hA : vs.toArray = items at hd ⊢
  rcases items with ⟨_ | ⟨x, _ | ⟨y, r⟩⟩⟩
  rotate_left
  · obtain rfl : vs = [x] := by simpa using congrArg Array.toList hA
    cases hp with
    | cons hr =>
      rename_i l t2 ls
      cases hr
      refine wpAny_bind (wpAny_of_eq (a := .type "bytes") rfl ?_)
      refine wpAny_ite_true rfl ?_
      refine wpAny_bind (wpAny_rule ?_)
      refine wpAny_pure ?_
      have e : ([l] : List (List UInt8)).flatten = l := by simp
      have h2 := h t2 s.toks
      rw [e] at h2
      exact h2
  all_goals
    with_unfolding_all refine wpAny_bind ?_
    rw [← hA] at hd ⊢
    clear hA
    rw [KPc.range_list]
    have hlen : vs.toArray.size = ps.length := by rw [List.size_toArray, hp.length]
    rw [hlen]
    refine forIn_run (st := fun i => (((ps.take i).map (·.toArray)).toArray, (vs.take i).map fun v => (v, (none : Option Value)))) ps.length 0 ?_ ?_
    · intro j _ hj Q' hQ'
      rw [Nat.zero_add] at hj
      have hjv : j < vs.length := by rw [hp.length]; exact hj
      obtain ⟨l, t2, hlv, hlp⟩ := hp.at j hj
      dsimp only
      refine wpAny_bind (wpAny_seqItems ho hd ?_)
      dsimp only
      refine wpAny_ite_false ?_ ?_
      · rw [noHeap (hp.take j)]; rfl
      have hx : vs.toArray.getD j Value.none = .bytes l.toArray t2 := by
        simp [Array.getD, hjv]
        rw [List.getElem?_eq_getElem hjv] at hlv
        exact Option.some.inj hlv
      rw [hx]
      refine wpAny_bind (wpAny_holding (take_plain ?_))
      dsimp only
      refine wpAny_bind (wpAny_seqItems ho hd ?_)
      dsimp only
      refine wpAny_ite_false (by simp [hlen]) ?_
      refine wpAny_pure ?_
      have e1 : (((ps.take (j + 1)).map (·.toArray)).toArray) = (((ps.take j).map (·.toArray)).toArray).push l.toArray := by
        rw [List.take_add_one, hlp]; simp
      have e2 : ((vs.take (j + 1)).map fun v => (v, (none : Option Value))) = ((vs.take j).map fun v => (v, (none : Option Value))) ++ [(.bytes l.toArray t2, none)] := by
        rw [List.take_add_one, hlv]; simp
      rw [← e1, ← e2]
      exact hQ'
    · rw [Nat.zero_add, List.take_length, ← hp.length, List.take_length]
      dsimp only
      refine wpAny_bind (wpAny_of_eq (a := (#[] : Array UInt8)) rfl ?_)
      have etot : Array.foldl (fun (x1 : Nat) (x2 : Array UInt8) => x1 + x2.size) ((#[] : Array UInt8).size * (((ps.map (·.toArray)).toArray).size - 1)) ((ps.map (·.toArray)).toArray) = ps.flatten.length := by
        rw [← Array.foldl_toList]
        have := total_fold ps 0
        simpa using this
      rw [etot]
      refine wpAny_ite (KPc.ite_no (by unfold Bytes.tooLong; rw [decide_eq_true_eq]; exact Nat.not_lt.mpr hz) ?_)
      have ej : Bytes.joined #[] ((ps.map (·.toArray)).toArray).toList = ps.flatten.toArray := joined_nil ps
      rw [ej]
      refine wpAny_bind (wpAny_mkBytes ?_ (by rw [List.size_toArray]; exact hz))
      refine wpAny_bind (wpAny_holding (wpAny_point ?_))
      refine wpAny_bind (joinLetGo_run ?_ vs _)
      exact wpAny_pure (h _ _)
theorem slot_join : Slot "bytes" "join" "bytes.join" :=
  .of (owner := "bytes") (n := "join") (by rw [typeLookup_type, builtinLookup_eq_fast]; kernel_rfl) (by decide +kernel) (by decide +kernel) (by decide +kernel)
    (by first | exact .inl (by decide +kernel) | exact .inr (by decide +kernel)) (by rw [isSubtype_type]; kernel_rfl)
theorem type_join : typeOf (.builtin "bytes.join") = pure (.type "method_descriptor") := by show builtinType _ = _; rw [builtinType_eq_fast]; kernel_rfl
theorem entry_join : entryFor table "bytes.join" = some Builtin.«bytes.join» := entryFor_of_tree (by kernel_rfl)
theorem args_join (a b : Value) : argsOk "bytes.join" ⟨[a, b], []⟩ := by unfold argsOk; kernel_rfl
theorem call_join {prog : Program} {w : World} {A : Around} {E : Value → Shared → Prop} {s : Shared} {a : Addr} {o : Obj} {T : String} {n : Nat} {vs : List Value} {ps : List (List UInt8)} {t : Tok} {Q : Value → Shared → Prop}
    (hT : T = "list" ∨ T = "tuple") (ho : s.heap.get? a = some o) (hc : o.cls = .type T) (hd : o.data = .seq vs.toArray n) (hp : BytesAre vs ps) (hz : ps.flatten.length ≤ sizeLine)
    (h : ∀ t' k, Q (.bytes ps.flatten.toArray t') { s with toks := k }) : wpAny (model prog w) A (call (.builtin "bytes.join") [.bytes #[] t, .ref a]) Q E s :=
  wpAny_call_entry slot_join (typeIs_bytes _ _ _) entry_join (join_run hT ho hc hd hp hz fun t' k => ⟨_, rfl, h t' k⟩) (args_join _ _)
section
variable {M : Model} {A : Around} {E : Value → Shared → Prop} {s : Shared} {b : Array UInt8} {x : PySem.Str} {t : Tok} {pl : Sem Bool} {Q : Value × List Value → Shared → Prop}
theorem meth_encode (h : Q (.builtin "str.encode", [.str x t]) s) : wpAny M A (getMethod (.str x t) (PySem.Str.ofString "encode") pl) Q E s := by
  with_reducible exact GM.of (.str x t) (typeIs_str _ _ _) F.slot_str_encode F.type_str_encode GM.noRef h
theorem meth_isascii (h : Q (.builtin "str.isascii", [.str x t]) s) : wpAny M A (getMethod (.str x t) (PySem.Str.ofString "isascii") pl) Q E s := by
  with_reducible exact GM.of (.str x t) (typeIs_str _ _ _) F.slot_str_isascii F.type_str_isascii GM.noRef h
theorem meth_hex (h : Q (.builtin "bytes.hex", [.bytes b t]) s) : wpAny M A (getMethod (.bytes b t) (PySem.Str.ofString "hex") pl) Q E s := by
  with_reducible exact KBd.method_of (.bytes b t) (typeIs_bytes _ _ _) FB.slot_bytes_hex FB.type_bytes_hex KBd.noRef h
theorem meth_starts (h : Q (.builtin "bytes.startswith", [.bytes b t]) s) : wpAny M A (getMethod (.bytes b t) (PySem.Str.ofString "startswith") pl) Q E s := by
  with_reducible exact KBd.method_of (.bytes b t) (typeIs_bytes _ _ _) FB.slot_bytes_startswith FB.type_bytes_startswith KBd.noRef h
theorem meth_join (h : Q (.builtin "bytes.join", [.bytes b t]) s) : wpAny M A (getMethod (.bytes b t) (PySem.Str.ofString "join") pl) Q E s := by
  with_reducible exact KBd.method_of (.bytes b t) (typeIs_bytes _ _ _) slot_join type_join KBd.noRef h
end
theorem clip_pos (n : Nat) {i : Int} (h : 0 ≤ i) : clipAt n i = min i.toNat n := by
  obtain ⟨k, rfl⟩ := Int.eq_ofNat_of_zero_le h
  exact clipAt_nat n k
theorem take_min {α : Type} (l : List α) (k : Nat) : l.take (min k l.length) = l.take k := by
  rcases Nat.le_total k l.length with h | h
  · rw [Nat.min_eq_left h]
  · rw [Nat.min_eq_right h, List.take_length, List.take_of_length_le h]
theorem cut_mid {α : Type} (l : List α) (i j : Nat) : (l.drop (min i l.length)).take (min j l.length - min i l.length) = (l.drop i).take (j - i) := by
  rcases Nat.le_total i l.length with h | h
  · rw [Nat.min_eq_left h]
    rcases Nat.le_total j l.length with h2 | h2
    · rw [Nat.min_eq_left h2]
    · rw [Nat.min_eq_right h2, List.take_of_length_le (by simp), List.take_of_length_le (by simp; omega)]
  · rw [Nat.min_eq_right h, List.drop_length, List.drop_of_length_le h]
    simp
section
variable {prog : Program} {w : World} {A : Around} {E : Value → Shared → Prop} {s : Shared} {value slice : PySem.Expr} {l : List UInt8} {t ti tj : Tok} {h₀ : Heap} {L : Addr} {m : PySem.Str → Option Value} {news : List (Addr × Obj)} {i j : Int} {Q : Value → Shared → Prop}
theorem slice_gen {lv uv : Value} {lo hi : Option Int} (hF : Fr h₀ L s.heap m) (hN : News h₀ L s.heap news) (hl : IsPart lv lo) (hu : IsPart uv hi) (hz : l.length ≤ 100000)
    (h : ∀ h' t' k, Fr h₀ L h' m → News h₀ L h' news → Q (.bytes ((l.drop (lo.elim 0 (clipAt l.length))).take (hi.elim l.length (clipAt l.length) - lo.elim 0 (clipAt l.length))).toArray t') { s with heap := h', toks := k })
    (hs : subscripted slice false (.bytes l.toArray t) (.ref s.heap.objs.size) = operate [.ref s.heap.objs.size, .bytes l.toArray t] (getItem (.bytes l.toArray t) (.ref s.heap.objs.size)) := by with_unfolding_all rfl)
    (ht : ∀ r, letTemporaryGo value (.bytes l.toArray t) r = pure () := by intro _; with_unfolding_all rfl) :
    wpAny (model prog w) A (subscriptTail value slice (.bytes l.toArray t) (.ref s.heap.objs.size)) Q E { s with heap := s.heap.push { cls := .type "slice", data := .fields #[lv, uv, .none] } } := by
  refine tail_of_ItemOn ⟨"bytes", _, FB.slot_bytes_getitem.lookup, typeIs_bytes _ _ _, getItem_meets (typeIs_bytes _ _ _) (by decide) FB.slot_bytes_getitem FB.entry_bytes_getitem (FB.args_bytes_getitem_2 _ _) (KBc.meets_slice2 l.toArray t _ hl hu)
    ⟨Heap.IsSliceOf.new _ _ _ _, Nat.le_trans (KBc.size_picked_le l.toArray lo hi) (by rw [sizeLine_eq, List.size_toArray]; omega), fun t' k => ?_⟩⟩ hs ht
  rw [KBc.picked_eq]
  exact h _ _ _ (hF.push _) (News.pushKeep hN _)
theorem slice_to (hF : Fr h₀ L s.heap m) (hN : News h₀ L s.heap news) (hj : 0 ≤ j) (hz : l.length ≤ 100000)
    (h : ∀ h' t' k, Fr h₀ L h' m → News h₀ L h' news → Q (.bytes (l.take j.toNat).toArray t') { s with heap := h', toks := k })
    (hs : subscripted slice false (.bytes l.toArray t) (.ref s.heap.objs.size) = operate [.ref s.heap.objs.size, .bytes l.toArray t] (getItem (.bytes l.toArray t) (.ref s.heap.objs.size)) := by with_unfolding_all rfl)
    (ht : ∀ r, letTemporaryGo value (.bytes l.toArray t) r = pure () := by intro _; with_unfolding_all rfl) :
    wpAny (model prog w) A (subscriptTail value slice (.bytes l.toArray t) (.ref s.heap.objs.size)) Q E { s with heap := s.heap.push { cls := .type "slice", data := .fields #[.none, .int j tj, .none] } } :=
  slice_gen hF hN (by constructor) (by constructor) hz (fun h' t' k a b => by
    simp only [Option.elim, List.drop_zero, Nat.sub_zero, clip_pos _ hj, take_min]
    exact h h' t' k a b) hs ht
theorem slice_from (hF : Fr h₀ L s.heap m) (hN : News h₀ L s.heap news) (hi : 0 ≤ i) (hz : l.length ≤ 100000)
    (h : ∀ h' t' k, Fr h₀ L h' m → News h₀ L h' news → Q (.bytes (l.drop i.toNat).toArray t') { s with heap := h', toks := k })
    (hs : subscripted slice false (.bytes l.toArray t) (.ref s.heap.objs.size) = operate [.ref s.heap.objs.size, .bytes l.toArray t] (getItem (.bytes l.toArray t) (.ref s.heap.objs.size)) := by with_unfolding_all rfl)
    (ht : ∀ r, letTemporaryGo value (.bytes l.toArray t) r = pure () := by intro _; with_unfolding_all rfl) :
    wpAny (model prog w) A (subscriptTail value slice (.bytes l.toArray t) (.ref s.heap.objs.size)) Q E { s with heap := s.heap.push { cls := .type "slice", data := .fields #[.int i ti, .none, .none] } } :=
  slice_gen hF hN (by constructor) (by constructor) hz (fun h' t' k a b => by
    simp only [Option.elim, clip_pos _ hi]
    have e : (l.drop (min i.toNat l.length)).take (l.length - min i.toNat l.length) = l.drop i.toNat := by
      have := cut_mid l i.toNat l.length
      rw [Nat.min_self] at this
      rw [this, List.take_of_length_le (by simp)]
    rw [e]
    exact h h' t' k a b) hs ht
theorem slice_mid (hF : Fr h₀ L s.heap m) (hN : News h₀ L s.heap news) (hi : 0 ≤ i) (hj : 0 ≤ j) (hz : l.length ≤ 100000)
    (h : ∀ h' t' k, Fr h₀ L h' m → News h₀ L h' news → Q (.bytes ((l.drop i.toNat).take (j.toNat - i.toNat)).toArray t') { s with heap := h', toks := k })
    (hs : subscripted slice false (.bytes l.toArray t) (.ref s.heap.objs.size) = operate [.ref s.heap.objs.size, .bytes l.toArray t] (getItem (.bytes l.toArray t) (.ref s.heap.objs.size)) := by with_unfolding_all rfl)
    (ht : ∀ r, letTemporaryGo value (.bytes l.toArray t) r = pure () := by intro _; with_unfolding_all rfl) :
    wpAny (model prog w) A (subscriptTail value slice (.bytes l.toArray t) (.ref s.heap.objs.size)) Q E { s with heap := s.heap.push { cls := .type "slice", data := .fields #[.int i ti, .int j tj, .none] } } :=
  slice_gen hF hN (by constructor) (by constructor) hz (fun h' t' k a b => by
    simp only [Option.elim, clip_pos _ hi, clip_pos _ hj, cut_mid]
    exact h h' t' k a b) hs ht
theorem add_L {c : List UInt8} {u : Tok} (hsz : l.length + c.length ≤ 100000) (h : ∀ t' k, Q (.bytes (l ++ c).toArray t') { s with toks := k }) :
    wpAny (model prog w) A (binaryOp .Add (.bytes l.toArray t) (.bytes c.toArray u)) Q E s := by
  refine KBy.add_bytes (by simp only [List.size_toArray]; omega) fun t' k => ?_
  rw [List.append_toArray]
  exact h t' k
theorem len_L (hz : l.length ≤ 100000) (h : ∀ t' k, Q (.int l.length t') { s with toks := k }) : wpAny (model prog w) A (call (.builtin "len") [.bytes l.toArray t]) Q E s := by
  refine len_bytes (by simp only [List.size_toArray]; omega) ?_
  have := h (s.toks + 1) (s.toks + 1 + 1)
  simpa using this
theorem ord_L {c : UInt8} (h : ∀ t' k, Q (.int c.toNat t') { s with toks := k }) (e : l = [c]) : wpAny (model prog w) A (call (.builtin "ord") [.bytes l.toArray t]) Q E s := by
  subst e
  exact call_ord h
theorem item_L {ui : Tok} (hz : l.length ≤ 100000) (h0 : 0 ≤ i) (h1 : i < (l.length : Int)) (h : ∀ t' k, Q (.int (l.getD i.toNat 0).toNat t') { s with toks := k })
    (hs : subscripted slice false (.bytes l.toArray t) (.int i ui) = operate [.bytes l.toArray t, .int i ui] (getItem (.bytes l.toArray t) (.int i ui)) := by with_unfolding_all rfl)
    (ht : ∀ r, letTemporaryGo value (.bytes l.toArray t) r = pure () := by intro _; with_unfolding_all rfl) :
    wpAny (model prog w) A (subscriptTail value slice (.bytes l.toArray t) (.int i ui)) Q E s :=
  KBy.item_N (by omega) h0 h1 (h _ _) hs ht
def toB (ns : List Int) : List UInt8 := ns.map fun n => n.toNat.toUInt8
theorem make_L {D : Addr} {vs : List Value} {ns : List Int} (F : Fr h₀ L s.heap m) (N : News h₀ L s.heap news) (hh : A.handled = none) (hl : s.heap.IsList D vs.toArray) (hi : IntsAre vs ns) (hr : ∀ n ∈ ns, 0 ≤ n ∧ n < 256) (hn : ns.length ≤ 100000)
    (h : ∀ h' t' k, Fr h₀ L h' m → News h₀ L h' news → Q (.bytes (toB ns).toArray t') { s with heap := h', toks := k }) : wpAny (model prog w) A (call (.type "bytes") [.ref D]) Q E s :=
  KBa.make_K F N hh hl hi hr (by omega) fun h' t' k a b _ => h h' t' k a b
theorem ne_L {c : List UInt8} {u : Tok} (h : Q (.bool (l != c)) s) : wpAny (model prog w) A (compareOp .NotEq (.bytes l.toArray t) (.bytes c.toArray u)) Q E s := ne_bytes h
theorem eq_L {c : List UInt8} {u : Tok} (h : Q (.bool (l == c)) s) : wpAny (model prog w) A (compareOp .Eq (.bytes l.toArray t) (.bytes c.toArray u)) Q E s := eq_bytes h
end
section
variable {prog : Program} {w : World} {A : Around} {E : Value → Shared → Prop} {s : Shared} {ds : List Nat} {t u : Tok} {n : Int} {Q : Value → Shared → Prop}
theorem len_S (hz : ds.length ≤ 100000) (h : ∀ t' k, Q (.int ds.length t') { s with toks := k }) : wpAny (model prog w) A (call (.builtin "len") [.str ⟨ds.toArray⟩ t]) Q E s := by
  have e : (⟨ds.toArray⟩ : PySem.Str).length = ds.length := by simp [PySem.Str.length]
  refine len_str (by rw [e]; omega) ?_
  rw [e]
  exact h _ _
theorem zero_app (ds : List Nat) : PySem.Str.ofString "0" ++ (⟨ds.toArray⟩ : PySem.Str) = ⟨(48 :: ds).toArray⟩ := by
  have e : PySem.Str.ofString "0" = ⟨#[48]⟩ := by decide +kernel
  rw [e]
  have : ((⟨#[48]⟩ : PySem.Str) ++ (⟨ds.toArray⟩ : PySem.Str)).cps = (48 :: ds).toArray := by
    rw [PySem.Str.cps_append]
    apply Array.ext'
    simp
  exact congrArg PySem.Str.mk this
theorem add_S0 (hz : ds.length ≤ 100000) (h : ∀ t' k, Q (.str ⟨(48 :: ds).toArray⟩ t') { s with toks := k }) :
    wpAny (model prog w) A (binaryOp .Add (.str (PySem.Str.ofString "0") t) (.str ⟨ds.toArray⟩ u)) Q E s := by
  have e : (⟨ds.toArray⟩ : PySem.Str).length = ds.length := by simp [PySem.Str.length]
  have e1 : (PySem.Str.ofString "0").length = 1 := by decide +kernel
  refine PyProof.Rows.add_str (fun t' tk => ?_) (by rw [e, e1, sizeLine_eq]; omega)
  rw [zero_app]
  exact h _ _
theorem mod_X (h0 : 0 ≤ n) (hlen : (hexDigs n.natAbs).length ≤ 1000000) (hd : n.natAbs.log2 < 1920)
    (h : ∀ t' k, Q (.str ⟨(hexDigs n.natAbs).toArray⟩ t') { s with toks := k }) : wpAny (model prog w) A (binaryOp .Mod (.str (Str.ofString "%x") t) (.int n u)) Q E s := binop_x h0 hlen hd h
end
section
variable {prog : Program} {w : World} {A : Around} {E : Value → Shared → Prop} {s : Shared} {t u : Tok} {n : Nat} {Q : Value → Shared → Prop}
theorem mod_N256 (h : ∀ t' k, Q (.int ((n % 256 : Nat) : Int) t') { s with toks := k }) : wpAny (model prog w) A (binaryOp .Mod (.int (n : Int) t) (.int 256 u)) Q E s := by
  refine PyProof.Rows.mod_int' (by decide) ?_
  have e : ((n : Int)).fmod 256 = ((n % 256 : Nat) : Int) := by rw [Int.fmod_eq_emod_of_nonneg _ (by decide)]; rfl
  rw [e]
  exact h _ _
theorem div_N256 (h : ∀ t' k, Q (.int ((n / 256 : Nat) : Int) t') { s with toks := k }) : wpAny (model prog w) A (binaryOp .FloorDiv (.int (n : Int) t) (.int 256 u)) Q E s := by
  refine PyProof.Rows.floordiv_int (by decide) ?_ (Or.inl (PyProof.noPylong_of_log2 (by decide +kernel)))
  have e : ((n : Int)).fdiv 256 = ((n / 256 : Nat) : Int) := by rw [Int.fdiv_eq_ediv_of_nonneg _ (by decide)]; rfl
  rw [e]
  exact h _ _
end
section
variable {prog : Program} {w : World} {A : Around} {E : Value → Shared → Prop} {s : Shared} {t u : Tok} {a b z : Int} {l : List UInt8} {Q : Value → Shared → Prop}
theorem and_at (e : Builtin.bitAnd a b = z) (h : ∀ t' k, Q (.int z t') { s with toks := k }) : wpAny (model prog w) A (binaryOp .BitAnd (.int a t) (.int b u)) Q E s := by
  subst e
  exact PyProof.Rows.and_int (h _ _)
theorem hexB_nat (l : List UInt8) : (chB (hexOut l)).map (·.toNat) = hexOut l := by
  unfold chB
  rw [List.map_map]
  refine (List.map_congr_left (g := _root_.id) fun x hx => ?_).trans (List.map_id _)
  have := hexOut_all l x hx
  unfold IsHex at this
  show x % 256 = x
  omega
theorem int16_L (hpos : 0 < l.length) (hz : l.length ≤ 300) (h : ∀ t' k, Q (.int (valB l : Nat) t') { s with toks := k }) : wpAny (model prog w) A (call (.type "int") [.bytes (chB (hexOut l)).toArray t, .int 16 u]) Q E s := by
  refine call_int16 (by rw [hexB_nat]; exact hexOut_all l) ?_ (by rw [chB_length, hexOut_length]; omega) fun t' k => ?_
  · intro e
    have := congrArg List.length e
    rw [chB_length, hexOut_length, List.length_nil] at this
    omega
  · rw [hexB_nat, hexOut_val]
    exact h t' k
end
theorem starts_at {prog : Program} {w : World} {A : Around} {E : Value → Shared → Prop} {s : Shared} {l : List UInt8} {c : UInt8} {b : Bool} {t u : Tok} {Q : Value → Shared → Prop} (e : (l.head? == some c) = b)
   (hQ : ∀ k, Q (.bool b) { s with toks := k }) : wpAny (model prog w) A (call (.builtin "bytes.startswith") [.bytes l.toArray t, .bytes [c].toArray u]) Q E s := by
  subst e
  exact call_starts hQ
theorem join_L {prog : Program} {w : World} {A : Around} {E : Value → Shared → Prop} {s : Shared} {h₀ : Heap} {L : Addr} {m : PySem.Str → Option Value} {news : List (Addr × Obj)} {a : Addr} {o : Obj} {T : String} {n : Nat} {vs : List Value} {ps : List (List UInt8)} {t : Tok} {Q : Value → Shared → Prop}
    (_F : Fr h₀ L s.heap m) (N : News h₀ L s.heap news) (hm : (a, o) ∈ news) (hT : T = "list" ∨ T = "tuple") (hc : o.cls = .type T) (hd : o.data = .seq vs.toArray n) (hp : BytesAre vs ps) (hz : ps.flatten.length ≤ 100000)
    (h : ∀ t' k, Q (.bytes ps.flatten.toArray t') { s with toks := k }) : wpAny (model prog w) A (call (.builtin "bytes.join") [.bytes #[] t, .ref a]) Q E s :=
  call_join hT (N _ hm).1 hc hd hp (by rw [sizeLine_eq]; omega) h
end Mine
end

noncomputable section
open PySem PySem.W PyProof.Rows PySem.Builtin
set_option maxRecDepth 100000
namespace Mine
theorem slot_bytes_str : Slot "bytes" "__str__" "bytes.__str__" :=
  .of (owner := "bytes") (n := "__str__") (by rw [typeLookup_type, builtinLookup_eq_fast]; kernel_rfl) (by decide +kernel) (by decide +kernel) (by decide +kernel)
    (by first | exact .inl (by decide +kernel) | exact .inr (by decide +kernel)) (by rw [isSubtype_type]; kernel_rfl)
theorem entry_bytes_str : entryFor table "bytes.__str__" = some Builtin.«bytes.__str__» := entryFor_of_tree (by kernel_rfl)
theorem args_bytes_str_1 (a : Value) : argsOk "bytes.__str__" ⟨[a], []⟩ := by
  unfold argsOk; rw [signature?_of (id := "bytes.__str__") (n := ['_', '_', 'r', 't', 's', '_', '_']) (o := ['s', 'e', 't', 'y', 'b']) (by kernel_rfl) FB.owner_bytes]; kernel_rfl
theorem fold_size {α : Type} (f : α → Array Nat) (hf : ∀ c, (f c).size ≤ 4) : ∀ (l : List α) (acc : Array Nat), (l.foldl (fun acc c => acc ++ f c) acc).size ≤ acc.size + 4 * l.length
  | [], acc => by simp
  | c :: r, acc => by
    have := fold_size f hf r (acc ++ f c)
    have := hf c
    rw [List.foldl_cons]
    simp only [Array.size_append, List.length_cons] at *
    omega
theorem lit_len (l : List UInt8) : (Bytes.literal l.toArray).length ≤ 4 * l.length + 3 := by
  unfold Bytes.literal
  show Array.size (Array.push _ _) ≤ _
  rw [Array.size_push, List.foldl_toArray]
  refine Nat.le_trans (Nat.succ_le_succ (fold_size _ (fun c => ?_) l _)) ?_
  · dsimp only
    repeat' split
    all_goals simp
  · simp only [List.size_toArray, List.length_cons, List.length_nil]
    omega
theorem lit_run {M : Model} {A : Around} {E : Value → Shared → Prop} {s : Shared} {l : List UInt8} {t : Tok} {Q : Fin → Shared → Prop} (hl : l.length ≤ 1000)
   (hQ : Q (.done (.ret (.str (Bytes.literal l.toArray) s.toks))) { s with toks := s.toks + 1 }) :
   wpAny M A (Builtin.«bytes.__str__» ⟨[.bytes l.toArray t], []⟩) Q E s := by
  have hn : Bytes.tooLong (4 * l.toArray.size + 3 + 0) = false := by
    show decide (_ > sizeLine) = false
    rw [sizeLine_eq, List.size_toArray]
    exact decide_eq_false (by omega)
  show wpAny M A (Bytes.literalAsked l.toArray >>= fun x => mkStr x >>= fun v => ret v) Q E s
  unfold Bytes.literalAsked
  rw [hn]
  refine wpAny_bind (wpAny_pure (wpAny_bind (wpAny_mkStr (wpAny_pure hQ) ?_)))
  show (Bytes.literal l.toArray).length ≤ sizeLine
  have := lit_len l
  rw [sizeLine_eq]
  omega
theorem strOf_bytes {prog : Program} {w : World} {A : Around} {E : Value → Shared → Prop} {s : Shared} {l : List UInt8} {t : Tok} {Q : Value → Shared → Prop} (hl : l.length ≤ 1000)
   (h : Q (.str (Bytes.literal l.toArray) s.toks) { s with toks := s.toks + 1 }) : wpAny (model prog w) A (Builtin.Str.strOf (.bytes l.toArray t)) Q E s := by
  unfold Builtin.Str.strOf
  rw [show Builtin.Str.isExactStr (.bytes l.toArray t) = false from rfl]
  refine wpAny_bind (m := cRoomFor _ _) (wpAny_cRoomFor_byValue rfl ?_)
  refine wpAny_bind (m := callSpecial? _ (Str.ofString "__str__")) (wpAny_callSpecial?_slot (name := Str.ofString "__str__") (typeIs_bytes _ _ _) slot_bytes_str
    (wpAny_call_entry slot_bytes_str (typeIs_bytes _ _ _) entry_bytes_str (lit_run hl ⟨_, rfl, ?_⟩) (args_bytes_str_1 _)))
  exact wpAny_pure h
end Mine
end

noncomputable section
open PySem PySem.W PyProof.Rows PySem.Builtin
set_option maxRecDepth 100000
namespace Mine
theorem strOf_bytesY {prog : Program} {w : World} {A : Around} {E : Value → Shared → Prop} {s : Shared} {l : List UInt8} {t : Tok} {Q : Value → Shared → Prop} (hl : l.length ≤ 20)
   (h : ∀ y : PySem.Str, y.length ≤ 1000 → Q (.str y s.toks) { s with toks := s.toks + 1 }) : wpAny (model prog w) A (Builtin.Str.strOf (.bytes l.toArray t)) Q E s :=
  strOf_bytes (by omega) (h _ (by have := lit_len l; omega))
theorem meets_tupY {t : Sem Fin} {b : Addr} {its : Array Value}
    (h : ∀ (prog : Program) (w : World) (A : Around) (s : Shared) (Q : Fin → Shared → Prop) (E : Value → Shared → Prop), IsTup s.heap b its → (∀ T t' k, Q (.done (.ret (.str T t'))) { s with toks := k }) → wpAny (model prog w) A t Q E s) :
    Meets t (fun _ R s => IsTup s.heap b its ∧ ∀ T t' k, R (.ok (.ret (.str T t'))) { s with toks := k }) :=
  Meets.of_wp fun prog w A _ s hS => h prog w A.in1 s _ _ hS.1 fun T t' k => ⟨_, rfl, hS.2 T t' k⟩
theorem wText_is : PySem.Str.ofString "wanted sequence (0x30), got string length %d %s" = (PySem.Str.mk #[119, 97, 110, 116, 101, 100, 32, 115, 101, 113, 117, 101, 110, 99, 101, 32, 40, 48, 120, 51, 48, 41, 44, 32, 103, 111, 116, 32, 115, 116, 114, 105, 110, 103, 32, 108, 101, 110, 103, 116, 104, 32, 37, 100, 32, 37, 115]) := by decide +kernel
local macro_rules | `(tactic| kpt_conv) => `(tactic| (refine wpAny_bind ?_; kpc_if; refine strOf_bytesY (by with_reducible assumption) ?_; intro y9 hy9; refine wpAny_bind (wpAny_of_eq (a := some _) rfl ?_)))
local macro_rules | `(tactic| kpt_len) => `(tactic| with_reducible assumption)
set_option maxHeartbeats 400000 in
theorem mod_meets {n : Int} {l : List UInt8} {b : Addr} {t u v : Tok} (h0 : 0 ≤ n) (h1 : n < 10 ^ 10) (hd : n.natAbs.log2 < 1920) (hl : l.length ≤ 20) :
   Meets («str.__mod__» ⟨[.str (PySem.Str.mk #[119, 97, 110, 116, 101, 100, 32, 115, 101, 113, 117, 101, 110, 99, 101, 32, 40, 48, 120, 51, 48, 41, 44, 32, 103, 111, 116, 32, 115, 116, 114, 105, 110, 103, 32, 108, 101, 110, 103, 116, 104, 32, 37, 100, 32, 37, 115]) t, .ref b], []⟩) (fun _ R s => IsTup s.heap b #[.int n u, .bytes l.toArray v] ∧ ∀ T t' k, R (.ok (.ret (.str T t'))) { s with toks := k }) := by
  apply meets_tupY
  intro _ _ _ _ _ _ kptH hQ9
  obtain ⟨kptO, kptG, kptC, kptN, kptD⟩ := kptH
  rw [KPt.entry_is_r]
  unfold Builtin.Str.percentFormat
  refine wpAny_bind (wpAny_isInstance (T := "tuple") ⟨kptO, kptG, kptC⟩ KPt.sub_tt ?_)
  refine wpAny_bind (KPt.asStr_ref kptG kptD ?_)
  refine wpAny_bind (KPt.fills_ref ⟨kptO, kptG, kptC⟩ ?_)
  intro _
  kpc_if
  refine wpAny_bind (wpAny_seqItems kptG kptD ?_)
  refine wpAny_bind (wpAny_pure ?_)
  refine wpAny_bind ?_
  rw [KPc.range_list]
  refine KPc.start ?_
  intro _ _
  refine KPc.turn ?_; kpc_check; (repeat kpc_if)
  refine wpAny_pure ?_; kpt_piece
  refine KPc.turn ?_; kpc_check; (repeat kpc_if)
  refine wpAny_bind ?_; refine wpAny_holding ?_; (repeat kpc_if)
  kpt_conv
  refine wpAny_pure ?_; refine wpAny_pure ?_; kpt_piece
  refine KPc.turn ?_; kpc_check; (repeat kpc_if)
  refine wpAny_pure ?_; kpt_piece
  refine KPc.turn ?_; kpc_check; (repeat kpc_if)
  refine wpAny_bind ?_; refine wpAny_holding ?_; (repeat kpc_if)
  kpt_conv
  refine wpAny_pure ?_; refine wpAny_pure ?_
  kpt_piece
  refine KPc.turn ?_; kpc_check; (repeat kpc_if)
  refine wpAny_pure ?_
  kpc_if
  refine KPc.finish_ok (by kpc_g) (by decide +kernel) (by exact rfl) ?_
  exact hQ9 _
theorem mod_DS {prog : Program} {w : World} {A : Around} {E : Value → Shared → Prop} {s : Shared} {h₀ : Heap} {L : Addr} {news : List (Addr × Obj)} {n : Int} {l : List UInt8} {b : Addr} {t u v : Tok} {k : Nat} {Q : Value → Shared → Prop}
   (N : News h₀ L s.heap news) (hb : (b, ({ cls := .type "tuple", data := .seq #[.int n u, .bytes l.toArray v] k } : Obj)) ∈ news) (h0 : 0 ≤ n) (h1 : n < 10 ^ 10) (hl : l.length ≤ 20)
   (h : ∀ T t' k, Q (.str T t') { s with toks := k }) : wpAny (model prog w) A (binaryOp .Mod (.str (PySem.Str.ofString "wanted sequence (0x30), got string length %d %s") t) (.ref b)) Q E s := by
  rw [wText_is]
  have ht : IsTup s.heap b #[.int n u, .bytes l.toArray v] := N.isTup hb
  have hT : s.TypeIs (.ref b) "tuple" := by
    obtain ⟨o, ho, hc, _⟩ := ht
    exact ⟨o, ho, hc⟩
  exact KPt.bin_left (T := "str") (U := "tuple") (op := .Mod) (by decide) (typeIs_str s _ t) hT F.fills_str_mod KPt.fills_tuple F.slot_str_mod
    (call_meets F.slot_str_mod (typeIs_str s _ t) F.entry_str_mod (F.args_str_mod_2 _ _) (mod_meets h0 h1 (shown (N := 2 ^ 1920) (by omega) (by omega) (Int.le_refl _)) hl) ⟨ht, fun T t' k => ⟨(fun e => nomatch e), h T t' k⟩⟩)
end Mine
end

noncomputable section
open PySem PySem.W
namespace Mine
noncomputable def octL (n : Nat) : List Nat := if n < 256 then [n] else octL (n / 256) ++ [n % 256]
termination_by n
decreasing_by omega
theorem octL_lt {n : Nat} (h : n < 256) : octL n = [n] := by rw [octL, if_pos h]
theorem octL_ge {n : Nat} (h : ¬ n < 256) : octL n = octL (n / 256) ++ [n % 256] := by rw [octL, if_neg h]
theorem octL_in (n : Nat) : ∀ x ∈ octL n, x < 256 := by
  induction n using Nat.strongRecOn with
  | _ n ih =>
    by_cases h : n < 256
    · rw [octL_lt h]
      intro x hx
      rw [List.mem_singleton.mp hx]; exact h
    · rw [octL_ge h]
      intro x hx
      rcases List.mem_append.mp hx with hx | hx
      · exact ih (n / 256) (by omega) x hx
      · rw [List.mem_singleton.mp hx]; omega
theorem octL_ne (n : Nat) : octL n ≠ [] := by
  by_cases h : n < 256
  · rw [octL_lt h]; exact List.cons_ne_nil _ _
  · rw [octL_ge h]; simp
theorem octL_length (n : Nat) : ∀ k, n < 256 ^ (k + 1) → (octL n).length ≤ k + 1 := by
  induction n using Nat.strongRecOn with
  | _ n ih =>
    intro k hk
    by_cases h : n < 256
    · rw [octL_lt h]; simp
    · rw [octL_ge h, List.length_append, List.length_singleton]
      cases k with
      | zero => omega
      | succ k =>
        have := ih (n / 256) (by omega) k (by rw [Nat.pow_succ] at hk; omega)
        omega
theorem octL_val (n : Nat) : (octL n).foldl (fun a c => a * 256 + c) 0 = n := by
  induction n using Nat.strongRecOn with
  | _ n ih =>
    by_cases h : n < 256
    · rw [octL_lt h]; simp
    · rw [octL_ge h, List.foldl_append, ih (n / 256) (by omega)]
      simp only [List.foldl_cons, List.foldl_nil]
      omega
def octB (n : Nat) : List UInt8 := (octL n).map fun c => c.toUInt8
theorem octB_length (n : Nat) : (octB n).length = (octL n).length := by simp [octB]
theorem toNat_of {c : Nat} (h : c < 256) : (c.toUInt8).toNat = c := by
  show c % 256 = c
  omega
theorem valB_map : ∀ (l : List Nat) (a : Nat), (∀ x ∈ l, x < 256) → (l.map fun c => c.toUInt8).foldl (fun acc c => acc * 256 + c.toNat) a = l.foldl (fun a c => a * 256 + c) a
  | [], _, _ => rfl
  | c :: r, a, h => by
    rw [List.map_cons, List.foldl_cons, List.foldl_cons, toNat_of (h c (.head _)), valB_map r _ fun x hx => h x (.tail _ hx)]
theorem octB_val (n : Nat) : valB (octB n) = n := by
  unfold valB octB
  rw [valB_map _ _ (octL_in n), octL_val]
theorem hexDigs_lt {n : Nat} (h : n < 16) : hexDigs n = [Builtin.Bytes.hexDigit n] := by
  unfold hexDigs
  rw [Nat.toDigits_of_lt_base h]
  revert h n
  decide
theorem hexDigs_ge {n : Nat} (h : ¬ n < 16) : hexDigs n = hexDigs (n / 16) ++ [Builtin.Bytes.hexDigit (n % 16)] := by
  unfold hexDigs
  have hm : n % 16 < 16 := Nat.mod_lt n (by decide)
  have t : Nat.toDigits 16 (n / 16) ++ Nat.toDigits 16 (n % 16) = Nat.toDigits 16 (16 * (n / 16) + n % 16) := Nat.toDigits_append_toDigits (by decide) (by omega) hm
  rw [Nat.div_add_mod] at t
  rw [← t, List.map_append]
  congr 1
  exact hexDigs_lt hm
theorem hexDigs_all (n : Nat) : AllHex (hexDigs n) := by
  induction n using Nat.strongRecOn with
  | _ n ih =>
    by_cases h : n < 16
    · rw [hexDigs_lt h]
      intro c hc
      rw [List.mem_singleton.mp hc]
      exact hexDigit_is h
    · rw [hexDigs_ge h]
      intro c hc
      rcases List.mem_append.mp hc with hc | hc
      · exact ih (n / 16) (by omega) c hc
      · rw [List.mem_singleton.mp hc]
        exact hexDigit_is (Nat.mod_lt n (by decide))
theorem hexDigs_ne (n : Nat) : hexDigs n ≠ [] := by
  by_cases h : n < 16
  · rw [hexDigs_lt h]; exact List.cons_ne_nil _ _
  · rw [hexDigs_ge h]; simp
theorem hexDigs_length (n : Nat) : ∀ k, n < 16 ^ (k + 1) → (hexDigs n).length ≤ k + 1 := by
  induction n using Nat.strongRecOn with
  | _ n ih =>
    intro k hk
    by_cases h : n < 16
    · rw [hexDigs_lt h]; simp
    · rw [hexDigs_ge h, List.length_append, List.length_singleton]
      cases k with
      | zero => omega
      | succ k =>
        have := ih (n / 16) (by omega) k (by rw [Nat.pow_succ] at hk; omega)
        omega
def padE (ds : List Nat) : List Nat := if ds.length % 2 = 0 then ds else 48 :: ds
noncomputable def pairB : List Nat → List UInt8
  | a :: b :: r => (hv a * 16 + hv b).toUInt8 :: pairB r
  | _ => []
theorem pairB_app : ∀ (a : List Nat) (x y : Nat), a.length % 2 = 0 → pairB (a ++ [x, y]) = pairB a ++ [(hv x * 16 + hv y).toUInt8]
  | [], _, _, _ => rfl
  | [_], _, _, h => by simp at h
  | a :: b :: r, x, y, h => by
    have ih := pairB_app r x y (by simp only [List.length_cons] at h; omega)
    simp only [List.cons_append, pairB, ih]
theorem padE_hex (n : Nat) : pairB (padE (hexDigs n)) = octB n := by
  induction n using Nat.strongRecOn with
  | _ n ih =>
    by_cases h : n < 256
    · unfold octB
      rw [octL_lt h]
      by_cases h2 : n < 16
      · rw [hexDigs_lt h2]
        show [(hv 48 * 16 + hv (Builtin.Bytes.hexDigit n)).toUInt8] = [n.toUInt8]
        rw [hexDigit_hv h2]
        show [(0 * 16 + n).toUInt8] = _
        rw [Nat.zero_mul, Nat.zero_add]
      · rw [hexDigs_ge h2, hexDigs_lt (by omega : n / 16 < 16)]
        have e : pairB (padE ([Builtin.Bytes.hexDigit (n / 16)] ++ [Builtin.Bytes.hexDigit (n % 16)])) = [(hv (Builtin.Bytes.hexDigit (n / 16)) * 16 + hv (Builtin.Bytes.hexDigit (n % 16))).toUInt8] := by
          simp [padE, pairB]
        rw [e]
        show _ = [n.toUInt8]
        rw [hexDigit_hv (by omega), hexDigit_hv (by omega), show n / 16 * 16 + n % 16 = n by omega]
    · have e1 : hexDigs n = hexDigs (n / 256) ++ [Builtin.Bytes.hexDigit (n / 16 % 16), Builtin.Bytes.hexDigit (n % 16)] := by
        rw [hexDigs_ge (by omega : ¬ n < 16), hexDigs_ge (by omega : ¬ n / 16 < 16), Nat.div_div_eq_div_mul, List.append_assoc]
        rfl
      have e2 : padE (hexDigs n) = padE (hexDigs (n / 256)) ++ [Builtin.Bytes.hexDigit (n / 16 % 16), Builtin.Bytes.hexDigit (n % 16)] := by
        rw [e1]
        unfold padE
        simp only [List.length_append, List.length_cons, List.length_nil]
        by_cases hp : (hexDigs (n / 256)).length % 2 = 0
        · rw [if_pos hp, if_pos (by omega)]
        · rw [if_neg hp, if_neg (by omega)]
          rfl
      have e3 : (padE (hexDigs (n / 256))).length % 2 = 0 := by
        unfold padE
        split
        · assumption
        · rw [List.length_cons]; omega
      rw [e2, pairB_app _ _ _ e3, ih (n / 256) (by omega)]
      unfold octB
      rw [octL_ge h, List.map_append, hexDigit_hv (by omega), hexDigit_hv (by omega), show n / 16 % 16 * 16 + n % 16 = n % 256 by omega]
      rfl
theorem toB_int (a b : Nat) : ((a : Int) * 16 + b).toNat.toUInt8 = (a * 16 + b).toUInt8 := by
  have : ((a : Int) * 16 + b).toNat = a * 16 + b := by omega
  rw [this]
end Mine
end

noncomputable section
open PySem PySem.W PyProof.Rows
namespace Mine

abbrev LS : List Str := [Str.ofString "_NO_SEP", Str.ofString "b2a_hex", Str.ofString "hexlify", Str.ofString "unhexlify", Str.ofString "remove_integer"]

def Con (d : Nat) (f : Addr) (vs : List Value) (kw : List (Str × Value)) (R : Tok → Value) : Prop :=
  ∀ (prog : Program) (w : World) (mean : ExcName → Option Value) (mg mb : Str → Option Value) (dp un : Nat) (gd : Option (List Code)) (cn : Str) (cs : Scope) (a : Addr) (ccd : Value) (cl : List (Str × Addr)) (outer : List Env) (A₀ : Around) (base h₀ : Heap) (L : Addr)
    (m : Str → Option Value) (news : List (Addr × Obj)) (s : Shared) (Q E : Value → Shared → Prop),
    Below A₀ base outer h₀ → Fr h₀ L s.heap m → (hd.heap_39 w.params).In h₀ → News h₀ L s.heap news → Top hd.view_39 (looseW hd.view_39 LS) mean mg mb h₀ → cs.kind = .function → dp + d < recursionLimit → un + 20 * d < cLine →
    (∀ t h' tk', Fr h₀ L h' m → News h₀ L h' news → Q (R t) { s with heap := h', toks := tk' }) →
    wpAny (model prog w) (ktrTop dp un gd cn cs L a ccd cl outer) (call (.ref f) vs kw) Q E s

theorem ConN {d : Nat} {f : Addr} {vs : List Value} {kw : List (Str × Value)} {R : Tok → Value} (C : Con d f vs kw R)
  {prog : Program} {w : World} {mean : ExcName → Option Value} {mg mb : Str → Option Value} {dp un : Nat} {gd : Option (List Code)} {cn : Str} {cs : Scope} {a : Addr} {ccd : Value} {cl : List (Str × Addr)} {outer : List Env} {A₀ : Around} {base h₀ : Heap} {L : Addr}
    {m : Str → Option Value} {news : List (Addr × Obj)} {s : Shared} {Q E : Value → Shared → Prop}
    (B : Below A₀ base outer h₀) (F : Fr h₀ L s.heap m) (X : (hd.heap_39 w.params).In h₀) (N : News h₀ L s.heap news) (T : Top hd.view_39 (looseW hd.view_39 LS) mean mg mb h₀) (hk : cs.kind = .function) (hdp : dp + d < recursionLimit) (hu : un + 20 * d < cLine)
    (h : ∀ t h' tk', Fr h₀ L h' m → News h₀ L h' news → Q (R t) { s with heap := h', toks := tk' }) :
    wpAny (model prog w) (ktrTop dp un gd cn cs L a ccd cl outer) (call (.ref f) vs kw) Q E s := C _ _ _ _ _ _ _ _ _ _ _ _ _ _ _ _ _ _ _ _ _ _ _ B F X N T hk hdp hu h

def ConT (d : Nat) (f : Addr) (vs : List Value) (kw : List (Str × Value)) (R : Obj → Prop) : Prop :=
  ∀ (prog : Program) (w : World) (mean : ExcName → Option Value) (mg mb : Str → Option Value) (dp un : Nat) (gd : Option (List Code)) (cn : Str) (cs : Scope) (a : Addr) (ccd : Value) (cl : List (Str × Addr)) (outer : List Env) (A₀ : Around) (base h₀ : Heap) (L : Addr)
    (m : Str → Option Value) (news : List (Addr × Obj)) (s : Shared) (Q E : Value → Shared → Prop),
    Below A₀ base outer h₀ → Fr h₀ L s.heap m → (hd.heap_39 w.params).In h₀ → News h₀ L s.heap news → Top hd.view_39 (looseW hd.view_39 LS) mean mg mb h₀ → cs.kind = .function → dp + d < recursionLimit → un + 20 * d < cLine →
    (∀ x o h' tk', R o → Fr h₀ L h' m → News h₀ L h' ((x, o) :: news) → (∀ p ∈ news, p.1 < x) → Q (.ref x) { s with heap := h', toks := tk' }) →
    wpAny (model prog w) (ktrTop dp un gd cn cs L a ccd cl outer) (call (.ref f) vs kw) Q E s

theorem ConTN {d : Nat} {f : Addr} {vs : List Value} {kw : List (Str × Value)} {R : Obj → Prop} (C : ConT d f vs kw R)
  {prog : Program} {w : World} {mean : ExcName → Option Value} {mg mb : Str → Option Value} {dp un : Nat} {gd : Option (List Code)} {cn : Str} {cs : Scope} {a : Addr} {ccd : Value} {cl : List (Str × Addr)} {outer : List Env} {A₀ : Around} {base h₀ : Heap} {L : Addr}
    {m : Str → Option Value} {news : List (Addr × Obj)} {s : Shared} {Q E : Value → Shared → Prop}
    (B : Below A₀ base outer h₀) (F : Fr h₀ L s.heap m) (X : (hd.heap_39 w.params).In h₀) (N : News h₀ L s.heap news) (T : Top hd.view_39 (looseW hd.view_39 LS) mean mg mb h₀) (hk : cs.kind = .function) (hdp : dp + d < recursionLimit) (hu : un + 20 * d < cLine)
    (h : ∀ x o h' tk', R o → Fr h₀ L h' m → News h₀ L h' ((x, o) :: news) → (∀ p ∈ news, p.1 < x) → Q (.ref x) { s with heap := h', toks := tk' }) :
    wpAny (model prog w) (ktrTop dp un gd cn cs L a ccd cl outer) (call (.ref f) vs kw) Q E s := C _ _ _ _ _ _ _ _ _ _ _ _ _ _ _ _ _ _ _ _ _ _ _ B F X N T hk hdp hu h
theorem ret_B {h₀ h' : Heap} {L : Addr} {m : Str → Option Value} {news : List (Addr × Obj)} {s : Shared} {Q : Value → Shared → Prop} {t : Tok} {tk' : Nat} {x y : List UInt8}
    (hret : ∀ (t : Tok) (h' : Heap) (tk' : Nat), Fr h₀ L h' m → News h₀ L h' news → Q (.bytes x.toArray t) { s with heap := h', toks := tk' }) (e : y = x) (F : Fr h₀ L h' m) (N : News h₀ L h' news) : Q (.bytes y.toArray t) { s with heap := h', toks := tk' } := by
  subst e
  exact hret t h' tk' F N
end Mine
end

noncomputable section
open PySem PySem.W PySem.Spec PySem.Calls PyProof.Rows PyProof.Rows.LCg
namespace Mine
def SrcTup (ax : Addr) (its : Array Value) (news : List (Addr × Obj)) : Prop := ∃ o, (ax, o) ∈ news ∧ o.cls = .type "tuple" ∧ ∃ n, o.data = .seq its n
theorem SrcTup.tup {h₀ h : Heap} {L ax : Addr} {its : Array Value} {news : List (Addr × Obj)} (x : SrcTup ax its news) (N : News h₀ L h news) : h.IsTuple ax its := by
  obtain ⟨o, hm, r⟩ := x
  exact ⟨o, (N _ hm).1, r⟩
def CompTup (prog : Program) (w : World) (A : Around) (h₀ : Heap) (L : Addr) (m : Str → Option Value) (env : Env) (elt : Expr) (x : Str) (scope : Scope) (cl : List (Str × Addr)) (Fin : Shared → List Value → List (Addr × Obj) → Prop) (xv : Value) (s₁ : Shared) : Prop :=
  ∃ ax its news, xv = .ref ax ∧ A.handled = none ∧ Fr h₀ L s₁.heap m ∧ News h₀ L s₁.heap news ∧ SrcTup ax its news ∧ its.size ≤ sizeLine ∧
    ∀ g : Heap, CompRest prog w A h₀ L m env elt x scope cl { s₁ with heap := g } (SrcTup ax its) (fun i v => its[i]? = some v) (Fin { s₁ with heap := g }) its.size 0 [] news
section
variable {prog : Program} {w : World} {A : Around} {E : Value → Shared → Prop} {s : Shared} {h₀ : Heap} {L : Addr} {m : Str → Option Value} {env : Env}
theorem CompTup.ledger {elt : Expr} {x : Str} {scope : Scope} {cl : List (Str × Addr)} {Fin : Shared → List Value → List (Addr × Obj) → Prop} {ax : Addr} {its : Array Value} {k : Nat} {news : List (Addr × Obj)} {s₁ : Shared}
    (hh : A.handled = none) (F : Fr h₀ L s₁.heap m) (N : News h₀ L s₁.heap news) (hm : (ax, ({ cls := .type "tuple", data := .seq its k } : Obj)) ∈ news) (hsz : its.size ≤ sizeLine)
    (h : ∀ g, CompRest prog w A h₀ L m env elt x scope cl { s₁ with heap := g } (SrcTup ax its) (fun i v => its[i]? = some v) (Fin { s₁ with heap := g }) its.size 0 [] news) :
    CompTup prog w A h₀ L m env elt x scope cl Fin (.ref ax) s₁ := ⟨ax, its, news, rfl, hh, F, N, ⟨_, hm, rfl, _, rfl⟩, hsz, h⟩
theorem ListComp_T {elt iter : Expr} {x : Str} {px : Pos} {scope : Scope} {cl : List (Str × Addr)} {pos : Pos} {Q : Value → Shared → Prop} (F₀ : Fr h₀ L s.heap m)
    (hclos : closureFor scope env = pure cl) (hcell : ∀ y ∈ scope.names, y.2 ≠ .cell) (hkind : scope.kind = .function)
    (hnames : ∀ y ∈ scope.names, y.2 = .local → scope.names.lookup y.1 = some .local) (hx : scope.names.lookup x = some .local)
    (h : wpAny (model prog w) A (eval iter env) (CompTup prog w A h₀ L m env elt x scope cl (fun s₂ => FinE h₀ L m s₂ Q)) E s)
    (hs : ∀ x, foldedSetIterable iter env x = pure x := by intro _; rfl) :
    wpAny (model prog w) A (eval (.ListComp elt [⟨.Name x px, iter, [], 0⟩] scope pos) env) Q E s := by
  rw [eval_ListComp]
  refine wpAny_comprehension_free (use := none) rfl hs hclos hkind hnames (wpAny_mono h (fun xv s₁ h₁ => ?_) fun _ _ e => e)
  obtain ⟨ax, its, news, rfl, hh, F, N, S, hsz, R⟩ := h₁
  have hl := S.tup N
  have hlt : ax < s₁.heap.objs.size := by obtain ⟨_, e, _⟩ := hl; exact Heap.lt_size e
  refine wpAny_pyIter_tuple hl ?_
  have up : ∀ b o, s₁.heap.get? b = some o → (s₁.heap.push { cls := .type "tuple_iterator", data := .fields #[.ref ax, .int 0 0] }).get? b = some o := fun b o e => Heap.get?_push_of_some _ e
  refine block_U (Walks.tuple hh s₁.heap.objs.size ax (Nat.ne_of_lt hlt) its) hsz (fun i h st => by obtain ⟨o, e, _⟩ := st.1; exact ⟨o, e⟩)
    (fun i h h' o nw st e e' k N S => ⟨by obtain ⟨o', q, r⟩ := st.1; rw [e] at q; cases q; exact ⟨o, e', r⟩, S.tup N⟩) hcell hkind hx ⟨⟨_, Heap.get?_push_size _ rfl, rfl, rfl⟩, hl.push _⟩ (fun b hb => ?_)
    (F.keeps up) (N.grown up) (Nat.ne_of_lt F.ns.lt) (next_is_new F) (fun p hp => Nat.ne_of_lt (Heap.lt_size (N p hp).1)) S (R _) ?_
  · show b < (s₁.heap.push _).objs.size
    rw [Heap.size_push]
    rcases List.mem_cons.mp hb with rfl | hb
    · exact Nat.lt_succ_self _
    · rw [List.mem_singleton.mp hb]; exact Nat.lt_succ_of_lt hlt
  · intro D C h tk m' ys news' F' N' o1 hn hC₀ hD₀ hCL hDL hCD offC fin
    refine ⟨m', hn, fun h'' hs'' => fin D h'' tk (F'.change hs'' hCL hC₀) (fun p hp => ?_) o1⟩
    refine ⟨hs''.extBut _ _ ?_ (N' p hp).1, (N' p hp).2⟩
    rcases List.mem_cons.mp hp with rfl | hp
    · exact Ne.symm hCD
    · exact offC p hp
end
end Mine
end

noncomputable section
open PySem PySem.W PyProof.Rows PySem.Builtin
set_option maxRecDepth 100000
namespace Mine
theorem slot_rev_next : Slot "reversed" "__next__" "reversed.__next__" :=
  .of (owner := "reversed") (n := "__next__") (by rw [typeLookup_type, builtinLookup_eq_fast]; kernel_rfl) (by decide +kernel) (by decide +kernel) (by decide +kernel)
    (by first | exact .inl (by decide +kernel) | exact .inr (by decide +kernel)) (by rw [isSubtype_type]; kernel_rfl)
theorem owner_rev : Manifest.owners.lookup (String.ofList ['d', 'e', 's', 'r', 'e', 'v', 'e', 'r'].reverse) = some Manifest.sig_reversed := by kernel_rfl
theorem entry_rev_next : entryFor table "reversed.__next__" = some Builtin.«reversed.__next__» := entryFor_of_tree (by kernel_rfl)
theorem args_rev_next (a : Value) : argsOk "reversed.__next__" ⟨[a], []⟩ := by
  unfold argsOk; rw [signature?_of (id := "reversed.__next__") (n := ['_', '_', 't', 'x', 'e', 'n', '_', '_']) (o := ['d', 'e', 's', 'r', 'e', 'v', 'e', 'r']) (by kernel_rfl) owner_rev]; kernel_rfl
theorem slot_rev_iter : Slot "reversed" "__iter__" "reversed.__iter__" :=
  .of (owner := "reversed") (n := "__iter__") (by rw [typeLookup_type, builtinLookup_eq_fast]; kernel_rfl) (by decide +kernel) (by decide +kernel) (by decide +kernel)
    (by first | exact .inl (by decide +kernel) | exact .inr (by decide +kernel)) (by rw [isSubtype_type]; kernel_rfl)
theorem args_rev_iter (a : Value) : argsOk "reversed.__iter__" ⟨[a], []⟩ := by
  unfold argsOk; rw [signature?_of (id := "reversed.__iter__") (n := ['_', '_', 'r', 'e', 't', 'i', '_', '_']) (o := ['d', 'e', 's', 'r', 'e', 'v', 'e', 'r']) (by kernel_rfl) owner_rev]; kernel_rfl
theorem entry_rev_iter : entryFor table "reversed.__iter__" = some Builtin.«dict_keyiterator.__iter__» :=
  entryFor_alias (id' := "dict_keyiterator.__iter__") (by kernel_rfl) (by first | rfl | decide +kernel | (unfold String.splitOn; simp +decide [String.splitOnAux])) (by decide +kernel) (by kernel_rfl)
theorem slot_rev_init : Slot "reversed" "__init__" "object.__init__" :=
  .of (owner := "object") (n := "__init__") (by rw [typeLookup_type, builtinLookup_eq_fast]; kernel_rfl) (by decide +kernel) (by decide +kernel) (by decide +kernel)
    (by first | exact .inl (by decide +kernel) | exact .inr (by decide +kernel)) (by rw [isSubtype_type]; kernel_rfl)
theorem called_rev : TypeCalled "reversed" "reversed.__new__" "object.__init__" :=
  ⟨by decide +kernel, by decide +kernel, ⟨_, _, PySem.F.mro_reversed⟩, madeBy_type PySem.F.mro_reversed PySem.F.lookup_reversed_new (by decide +kernel), by decide +kernel, by rw [isSubtype_type]; kernel_rfl, slot_rev_init⟩
theorem args_init_2 (a b : Value) : argsOk "object.__init__" ⟨[a, b], []⟩ := by
  unfold argsOk; rw [signature?_of (id := "object.__init__") (n := ['_', '_', 't', 'i', 'n', 'i', '_', '_']) (o := ['t', 'c', 'e', 'j', 'b', 'o']) (by kernel_rfl) PySem.F.owner_object]; kernel_rfl
theorem look_bytes_rev : typeLookup (.type "bytes") "__reversed__" = pure none := by rw [typeLookup_type, builtinLookup_eq_fast]; kernel_rfl
def revO (b : Array UInt8) (t : Tok) (i : Int) : Obj := { cls := .type "reversed", data := .fields #[.bytes b t, rawInt i] }
section
variable {prog : Program} {w : World} {A : Around} {E : Value → Shared → Prop} {s : Shared}
theorem sub_bytes_dict : isSubtype (.type "bytes") (.type "dict") = pure false := by rw [isSubtype_type]; kernel_rfl
theorem meets_rev_new (l : List UInt8) (t : Tok) (hz : l.length ≤ 100000) :
    Meets (Builtin.«reversed.__new__» ⟨[.type "reversed", .bytes l.toArray t], []⟩) (fun _ R s => ∀ k, 
      R (.ok (.ret (.ref s.heap.objs.size))) { s with heap := s.heap.push (revO l.toArray t ((l.length : Int) - 1)), toks := k }) :=
  .of_wp fun prog w A R s h => by
    have hsub := PySem.F.sub_reversed_self
    have hd := sub_bytes_dict
    unfold Builtin.«reversed.__new__»
    refine wpAny_bind (wpAny_of_eq (newClass_reversed _) ?_)
    try dsimp only
    refine wpAny_bind (wpAny_of_eq (a := ()) (by first | rfl | kernel_rfl) ?_)
    refine wpAny_bind (wpAny_of_eq (a := ()) (by first | rfl | kernel_rfl) ?_)
    try dsimp only
    refine wpAny_bind (wpAny_specialOf (typeIs_bytes _ _ _) look_bytes_rev ?_)
    try dsimp only
    repeat (any_goals (first
      | assumption
      | (with_reducible refine wpAny_specialOf (typeIs_bytes _ _ _) FB.slot_bytes_getitem.lookup ?_)
      | (with_reducible refine len_L (by omega) ?_; intro _ _)
      | wp_step))
    exact ⟨_, rfl, h _⟩
theorem call_rev {l : List UInt8} {t : Tok} {Q : Value → Shared → Prop} (hz : l.length ≤ 100000)
    (h : ∀ k, Q (.ref s.heap.objs.size) { s with heap := s.heap.push (revO l.toArray t ((l.length : Int) - 1)), toks := k }) : wpAny (model prog w) A (call (.type "reversed") [.bytes l.toArray t]) Q E s := by
  refine callType_new called_rev (by decide) (PySem.F.typeCall_reversed_1 _) (PySem.F.newCall_reversed_1 _) (fun obj => args_init_2 obj _) PySem.F.entry_reversed_new (meets_rev_new l t hz) (fun k => ⟨⟨_, Heap.get?_push_size _ rfl, rfl⟩, h k⟩)
def IsRev (h : Heap) (a : Addr) (b : Array UInt8) (t : Tok) (i : Int) : Prop := h.get? a = some (revO b t i)
theorem IsRev.typeIs {a : Addr} {b : Array UInt8} {t : Tok} {i : Int} (x : IsRev s.heap a b t i) : s.TypeIs (.ref a) "reversed" := ⟨_, x, rfl⟩
theorem iter_rev {a : Addr} {b : Array UInt8} {t : Tok} {i : Int} {Q : Value → Shared → Prop} (hit : IsRev s.heap a b t i) (h : Q (.ref a) s) : wpAny (model prog w) A (pyIter (.ref a)) Q E s := by
  refine wpAny_pyIter_slot hit.typeIs slot_rev_iter (wpAny_call_entry slot_rev_iter hit.typeIs entry_rev_iter ?_ (args_rev_iter _))
  show wpAny _ _ (ret (.ref a)) _ _ s
  exact wpAny_pure ⟨_, rfl, "reversed", _, hit.typeIs, slot_rev_next.lookup, h⟩
theorem nextOf_rev_item {a : Addr} {l : List UInt8} {t : Tok} {i : Nat} {Q : Value → Shared → Prop} (hz : l.length ≤ 100000) (hi : i < l.length) (hit : IsRev s.heap a l.toArray t (i : Int))
    (hQ : ∀ h' t' k, IsRev h' a l.toArray t ((i : Int) - 1) → Heap.SameBut a s.heap h' → Q (.int (l.getD i 0).toNat t') { s with heap := h', toks := k }) :
    wpAny (model prog w) A (Builtin.SmallTypes.nextOf (.ref a)) Q E s := by
  unfold Builtin.SmallTypes.nextOf
  refine wpAny_bind (wpAny_callSpecial?_slot (name := Str.ofString "__next__") hit.typeIs slot_rev_next
    (wpAny_call_entry slot_rev_next hit.typeIs entry_rev_next ?_ (args_rev_next _)))
  unfold Builtin.«reversed.__next__»
  refine wpAny_bind (wpAny_of_eq (a := (Value.ref a, [])) rfl ?_)
  try dsimp only
  refine wpAny_bind (wpAny_field hit (show Obj.data _ = .fields _ from rfl) (x := .bytes l.toArray t) rfl ?_)
  refine wpAny_bind (wpAny_field hit (show Obj.data _ = .fields _ from rfl) (x := rawInt (i : Int)) rfl ?_)
  show wpAny _ _ (if (i : Int) < 0 then _ else _) _ _ s
  rw [if_neg (by omega)]
  refine wpAny_bind (wpAny_specialOf (typeIs_bytes _ _ _) FB.slot_bytes_getitem.lookup ?_)
  show wpAny _ _ (mkInt (i : Int) >>= _) _ _ s
  refine wpAny_bind (wpAny_mkInt ?_)
  refine wpAny_bind (wpAny_attempt (getItem_bytes (by omega) (by omega) (by omega) ?_))
  try dsimp only
  refine wpAny_bind (wpAny_field hit (show Obj.data _ = .fields _ from rfl) (x := rawInt (i : Int)) rfl ?_)
  show wpAny _ _ (setField (.ref a) 1 (rawInt ((i : Int) - 1)) >>= _) _ _ _
  unfold IsRev revO at hit
  refine wpAny_bind (wpAny_setField_rec hit (by simp) fun h₁ hz₁ hs₁ => ?_)
  refine wpAny_pure ⟨_, rfl, wpAny_pure ?_⟩
  exact hQ h₁ _ _ hz₁ hs₁
theorem nextOf_rev_end {a : Addr} {b : Array UInt8} {t : Tok} {Q : Value → Shared → Prop} (hh : A.handled = none) (hit : IsRev s.heap a b t (-1))
    (hE : ∀ h' e, Heap.ExtBut a s.heap h' → (∃ o, h'.get? e = some o ∧ o.cls = .type "StopIteration") → E (.ref e) { s with heap := h' }) :
    wpAny (model prog w) A (Builtin.SmallTypes.nextOf (.ref a)) Q E s := by
  unfold Builtin.SmallTypes.nextOf
  refine wpAny_bind (wpAny_callSpecial?_slot (name := Str.ofString "__next__") hit.typeIs slot_rev_next
    (wpAny_call_entry slot_rev_next hit.typeIs entry_rev_next ?_ (args_rev_next _)))
  unfold Builtin.«reversed.__next__»
  refine wpAny_bind (wpAny_of_eq (a := (Value.ref a, [])) rfl ?_)
  try dsimp only
  refine wpAny_bind (wpAny_field hit (show Obj.data _ = .fields _ from rfl) (x := .bytes b t) rfl ?_)
  refine wpAny_bind (wpAny_field hit (show Obj.data _ = .fields _ from rfl) (x := rawInt (-1)) rfl ?_)
  show wpAny _ _ (if (-1 : Int) < 0 then _ else _) _ _ s
  rw [if_pos (by decide)]
  refine wpAny_bind (wpAny_rule ?_)
  unfold IsRev revO at hit
  refine wpAny_bind ?_
  show wpAny _ _ (setField (.ref a) 1 (rawInt (-1)) >>= fun _ => setField (.ref a) 0 .none) _ _ _
  refine wpAny_bind (wpAny_setField_rec hit (by simp) fun h₁ hz₁ hs₁ => ?_)
  refine wpAny_setField_rec hz₁ (by simp) fun h₂ hz₂ hs₂ => ?_
  refine wpAny_bind ?_
  show wpAny _ _ (newExc (.type "StopIteration") [] >>= _) _ _ _
  refine wpAny_bind ?_
  simp only [newExc, newTuple]
  refine wpAny_bind (wpAny_newObj_type ?_ (by size_fits))
  refine wpAny_bind (m := firstArgMember _ _) (wpAny_of_eq (a := Value.none) (by first | rfl | (simp only [firstArgMember]; rfl)) ?_)
  refine wpAny_newObj_type ?_ (by size_fits)
  simp only [raiseNew]
  refine wpAny_bind (wpAny_handled ?_)
  first | rw [show A.in1.handled = none from hh] | rw [hh]
  refine wpAny_bind (wpAny_pure (wpAny_throw ?_))
  exact hE _ _ (((hs₁.extBut.trans hs₂.extBut).push _).push _) ⟨_, Heap.get?_push_size _ rfl, rfl⟩
structure RzApart (z TI TO i1 i2 l2 : Addr) : Prop where
  TIz : TI ≠ z
  TOz : TO ≠ z
  i1z : i1 ≠ z
  i2z : i2 ≠ z
  TITO : TI ≠ TO
  TIi1 : TI ≠ i1
  TIi2 : TI ≠ i2
  TOi1 : TO ≠ i1
  TOi2 : TO ≠ i2
  i12 : i1 ≠ i2
  l2z : l2 ≠ z
  l2TO : l2 ≠ TO
  l2i1 : l2 ≠ i1
  l2i2 : l2 ≠ i2
theorem IsRev.extBut {h h' : Heap} {a c : Addr} {b : Array UInt8} {t : Tok} {i : Int} (x : IsRev h a b t i) (e : Heap.ExtBut c h h') (hn : a ≠ c) : IsRev h' a b t i := e _ _ hn x
theorem rz_next_item {z TI TO i1 i2 l2 : Addr} {k1 k2 : Nat} {l : List UInt8} {tl : Tok} {ys : Array Value} {y a b : Value} {Q : Value → Shared → Prop} (D : RzApart z TI TO i1 i2 l2) (hsl : l.length ≤ 100000) (hk1 : k1 < l.length)
    (hz : IsZip s.heap z TI TO .none) (hTI : IsPair s.heap TI (.ref i1) (.ref i2)) (hTO : IsPair s.heap TO a b)
    (h1 : IsRev s.heap i1 l.toArray tl (k1 : Int)) (h2 : s.heap.IsListIter i2 l2 k2) (hl2 : s.heap.IsList l2 ys) (hy : ys[k2]? = some y)
    (hQ : ∀ h' t' k, IsZip h' z TI TO (rawInt s.heap.objs.size) → IsPair h' TO (.int (l.getD k1 0).toNat t') y → IsRev h' i1 l.toArray tl ((k1 : Int) - 1) → h'.IsListIter i2 l2 (k2 + 1) → IsPair h' s.heap.objs.size (.int (l.getD k1 0).toNat t') y → h'.objs.size = s.heap.objs.size + 1 →
      (∀ c o, c ≠ z → c ≠ TO → c ≠ i1 → c ≠ i2 → s.heap.get? c = some o → h'.get? c = some o) → Q (.ref s.heap.objs.size) { s with heap := h', toks := k }) :
    wpAny (model prog w) A (Builtin.«zip.__next__» ⟨[.ref z], []⟩) (fun fin s' => ∃ v, fin = .done (.ret v) ∧ Q v s') E s := by
  show wpAny _ _ (field (.ref z) 2 >>= _) _ _ _
  refine wpAny_bind (wpAny_field hz rfl (x := .bool false) rfl ?_)
  show wpAny _ _ (field (.ref z) 3 >>= _) _ _ _
  refine wpAny_bind (wpAny_field hz rfl (x := .ref TI) rfl ?_)
  refine wpAny_bind (wpAny_seqItems hTI rfl ?_)
  show wpAny _ _ (Builtin.SmallTypes.ownedTupleIsFree (.ref z) >>= _) _ _ _
  refine wpAny_bind ?_
  unfold Builtin.SmallTypes.ownedTupleIsFree
  refine wpAny_bind (wpAny_field hz rfl (x := .none) rfl (wpAny_pure ?_))
  simp only [if_true]
  refine wpAny_bind (wpAny_rule ?_)
  refine wpAny_bind (wpAny_field hz rfl (x := .ref TO) rfl ?_)
  refine wpAny_bind (wpAny_setField_rec hz (by simp) fun h₁ hz₁ hs₁ => ?_)
  replace hz₁ : IsZip h₁ z TI TO .ellipsis := hz₁
  refine wpAny_bind ?_
  simp only [List.zipIdx_cons, List.zipIdx_nil, List.forIn_cons, List.forIn_nil]
  refine wpAny_bind (wpAny_bind (wpAny_onRaise ?_))
  show wpAny _ _ (Builtin.SmallTypes.nextOf (.ref i1) >>= _) _ _ _
  refine wpAny_bind (nextOf_rev_item hsl hk1 (h1.extBut hs₁.extBut D.i1z) fun h₂ t' k' h1₂ hs₂ => wpAny_pure ?_)
  have hTO₂ : IsPair h₂ TO a b := hs₂.extBut _ _ D.TOi1 (hs₁.extBut _ _ D.TOz hTO)
  refine wpAny_bind (wpAny_seqItems hTO₂ rfl ?_)
  refine wpAny_bind (wpAny_updateSeq_pair hTO₂ fun h₃ hTO₃ hs₃ => ?_)
  replace hTO₃ : IsPair h₃ TO (.int (l.getD k1 0).toNat t') b := hTO₃
  refine wpAny_bind (wpAny_letGo (wpAny_pure ?_))
  refine wpAny_bind (wpAny_bind (wpAny_onRaise ?_))
  show wpAny _ _ (Builtin.SmallTypes.nextOf (.ref i2) >>= _) _ _ _
  refine wpAny_bind (wpAny_nextOf_list_item (((h2.extBut hs₁.extBut D.i2z).extBut hs₂.extBut D.i12.symm).extBut hs₃.extBut D.TOi2.symm)
    (((hl2.extBut hs₁.extBut D.l2z).extBut hs₂.extBut D.l2i1).extBut hs₃.extBut D.l2TO) hy fun h₄ h2₄ hs₄ => wpAny_pure ?_)
  have hTO₄ : IsPair h₄ TO (.int (l.getD k1 0).toNat t') b := hs₄.extBut _ _ D.TOi2 hTO₃
  refine wpAny_bind (wpAny_seqItems hTO₄ rfl ?_)
  refine wpAny_bind (wpAny_updateSeq_pair hTO₄ fun h₅ hTO₅ hs₅ => ?_)
  replace hTO₅ : IsPair h₅ TO (.int (l.getD k1 0).toNat t') y := hTO₅
  refine wpAny_bind (wpAny_letGo (wpAny_pure (wpAny_pure ?_)))
  refine wpAny_bind (wpAny_seqItems hTO₅ rfl ?_)
  refine wpAny_bind (wpAny_newTuple ?_)
  have hsz : h₅.objs.size = s.heap.objs.size := by rw [hs₅.1, hs₄.1, hs₃.1, hs₂.1, hs₁.1]
  have hz₅ : IsZip h₅ z TI TO .ellipsis := hs₅.extBut _ _ D.TOz.symm (hs₄.extBut _ _ D.i2z.symm (hs₃.extBut _ _ D.TOz.symm (hs₂.extBut _ _ D.i1z.symm hz₁)))
  have hk₅ : ∀ c o, c ≠ z → c ≠ TO → c ≠ i1 → c ≠ i2 → s.heap.get? c = some o → h₅.get? c = some o := fun c o c1 c2 c3 c4 e =>
    hs₅.extBut _ _ c2 (hs₄.extBut _ _ c4 (hs₃.extBut _ _ c2 (hs₂.extBut _ _ c3 (hs₁.extBut _ _ c1 e))))
  have h1₅ : IsRev h₅ i1 l.toArray tl ((k1 : Int) - 1) := ((h1₂.extBut hs₃.extBut D.TOi1.symm).extBut hs₄.extBut D.i12).extBut hs₅.extBut D.TOi1.symm
  have h2₅ : h₅.IsListIter i2 l2 (k2 + 1) := h2₄.extBut hs₅.extBut D.TOi2.symm
  have hzlt : z < h₅.objs.size := Heap.lt_size hz₅
  have hTOlt : TO < h₅.objs.size := Heap.lt_size hTO₅
  have hi1lt : i1 < h₅.objs.size := Heap.lt_size h1₅
  have hi2lt : i2 < h₅.objs.size := by obtain ⟨_, e, _⟩ := h2₅; exact Heap.lt_size e
  show wpAny _ _ (Builtin.SmallTypes.ownedTupleHandOut (.ref z) (.ref h₅.objs.size) >>= _) _ _ _
  refine wpAny_bind ?_
  unfold Builtin.SmallTypes.ownedTupleHandOut
  have hz₆ : IsZip (h₅.push { cls := .type "tuple", data := .seq #[.int (l.getD k1 0).toNat t', y] }) z TI TO .ellipsis := Heap.get?_push_of_some _ hz₅
  refine wpAny_bind (wpAny_setField_rec hz₆ (by simp) fun h₇ hz₇ hs₇ => ?_)
  replace hz₇ : IsZip h₇ z TI TO (rawInt h₅.objs.size) := hz₇
  refine wpAny_setField_rec hz₇ (by simp) fun h₈ hz₈ hs₈ => ?_
  replace hz₈ : IsZip h₈ z TI TO (rawInt h₅.objs.size) := hz₈
  have up : ∀ c o, c ≠ z → h₅.get? c = some o → h₈.get? c = some o := fun c o c1 e => hs₈.extBut _ _ c1 (hs₇.extBut _ _ c1 (Heap.get?_push_of_some _ e))
  have hT₈ : IsPair h₈ h₅.objs.size (.int (l.getD k1 0).toNat t') y := hs₈.extBut _ _ (Nat.ne_of_gt hzlt) (hs₇.extBut _ _ (Nat.ne_of_gt hzlt) (Heap.get?_push_size _ rfl))
  have hz8 : h₈.objs.size = h₅.objs.size + 1 := by rw [hs₈.1, hs₇.1, Heap.size_push]
  rw [hsz] at hz₈ hT₈ hz8
  refine wpAny_pure ⟨_, rfl, ?_⟩
  show Q (.ref h₅.objs.size) _
  rw [hsz]
  exact hQ h₈ _ _ hz₈ (up _ _ D.TOz hTO₅) (up _ _ D.i1z h1₅) (h2₅.at fun o e => up _ o D.i2z e) hT₈ hz8 fun c o c1 c2 c3 c4 e => up c o c1 (hk₅ c o c1 c2 c3 c4 e)
theorem rz_next_end {z TI TO i1 i2 l2 : Addr} {c : Array UInt8} {tl : Tok} {a b : Value} {Q : Fin → Shared → Prop} (hh : A.handled = none) (D : RzApart z TI TO i1 i2 l2)
    (hz : IsZip s.heap z TI TO .none) (hTI : IsPair s.heap TI (.ref i1) (.ref i2)) (hTO : IsPair s.heap TO a b)
    (h1 : IsRev s.heap i1 c tl (-1))
    (hE : ∀ h' e, (∀ c o, c ≠ z → c ≠ TO → c ≠ i1 → c ≠ i2 → s.heap.get? c = some o → h'.get? c = some o) → (∃ o, h'.get? e = some o ∧ o.cls = .type "StopIteration") → E (.ref e) { s with heap := h' }) :
    wpAny (model prog w) A (Builtin.«zip.__next__» ⟨[.ref z], []⟩) Q E s := by
  show wpAny _ _ (field (.ref z) 2 >>= _) _ _ _
  refine wpAny_bind (wpAny_field hz rfl (x := .bool false) rfl ?_)
  show wpAny _ _ (field (.ref z) 3 >>= _) _ _ _
  refine wpAny_bind (wpAny_field hz rfl (x := .ref TI) rfl ?_)
  refine wpAny_bind (wpAny_seqItems hTI rfl ?_)
  show wpAny _ _ (Builtin.SmallTypes.ownedTupleIsFree (.ref z) >>= _) _ _ _
  refine wpAny_bind ?_
  unfold Builtin.SmallTypes.ownedTupleIsFree
  refine wpAny_bind (wpAny_field hz rfl (x := .none) rfl (wpAny_pure ?_))
  simp only [if_true]
  refine wpAny_bind (wpAny_rule ?_)
  refine wpAny_bind (wpAny_field hz rfl (x := .ref TO) rfl ?_)
  refine wpAny_bind (wpAny_setField_rec hz (by simp) fun h₁ hz₁ hs₁ => ?_)
  replace hz₁ : IsZip h₁ z TI TO .ellipsis := hz₁
  refine wpAny_bind ?_
  simp only [List.zipIdx_cons, List.zipIdx_nil, List.forIn_cons, List.forIn_nil]
  refine wpAny_bind (wpAny_bind (wpAny_onRaise ?_))
  show wpAny _ _ (Builtin.SmallTypes.nextOf (.ref i1) >>= _) _ _ _
  refine wpAny_bind (nextOf_rev_end hh (h1.extBut hs₁.extBut D.i1z) fun h₂ e hs₂ he => ?_)
  obtain ⟨oe, hoe, hce⟩ := he
  have hz₂ : IsZip h₂ z TI TO .ellipsis := hs₂ _ _ D.i1z.symm hz₁
  have hez : e ≠ z := fun x => by subst x; rw [hz₂] at hoe; cases hoe; simp at hce
  refine wpAny_setField_rec hz₂ (by simp) fun h₃ _ hs₃ => hE h₃ e (fun c o c1 _ c3 _ x => hs₃.extBut _ _ c1 (hs₂ _ _ c3 (hs₁.extBut _ _ c1 x))) ⟨oe, hs₃.extBut _ _ hez hoe, hce⟩
end
end Mine
end

noncomputable section
open PySem PySem.W PyProof.Rows PySem.SeqAt
namespace Mine
inductive EqVs : List Value → List Value → Prop
  | nil : EqVs [] []
  | int {i j : Int} {t u : Tok} {xs ys : List Value} (e : i = j) : EqVs xs ys → EqVs (.int i t :: xs) (.int j u :: ys)
  | bytes {l c : List UInt8} {t u : Tok} {xs ys : List Value} (e : l = c) : EqVs xs ys → EqVs (.bytes l.toArray t :: xs) (.bytes c.toArray u :: ys)
theorem EqVs.len {xs ys : List Value} (h : EqVs xs ys) : xs.length = ys.length := by
  induction h with
  | nil => rfl
  | int _ _ ih => simp [ih]
  | bytes _ _ ih => simp [ih]
theorem eqAt_bytes {A : Around} {s : Shared} (l : Array UInt8) (t u : Tok) : EqAt A s (.bytes l t) (.bytes l u) true := fun prog w E Q h => eqBool_bytes (by simpa using h)
theorem eqAt_int {A : Around} {s : Shared} (i : Int) (t u : Tok) : EqAt A s (.int i t) (.int i u) true := by
  have := EqAt.int_int (A := A) (s := s) i t i u
  simpa using this
theorem EqVs.at {A : Around} {s : Shared} {xs ys : List Value} (h : EqVs xs ys) : ∀ (j : Nat) (h1 : j < xs.toArray.size) (h2 : j < ys.toArray.size), EqAt A s xs.toArray[j] ys.toArray[j] true := by
  induction h with
  | nil => intro j h1 _; simp at h1
  | int e _ ih =>
    subst e
    intro j h1 h2
    cases j with
    | zero => exact eqAt_int _ _ _
    | succ j => exact ih j (by simpa using h1) (by simpa using h2)
  | bytes e _ ih =>
    subst e
    intro j h1 h2
    cases j with
    | zero => exact eqAt_bytes _ _ _
    | succ j => exact ih j (by simpa using h1) (by simpa using h2)
theorem all_true (n : Nat) : (List.range n).all (fun _ => true) = true := by simp
section
variable {prog : Program} {w : World} {A : Around} {E : Value → Shared → Prop} {s : Shared} {h₀ : Heap} {L a b : Addr} {news : List (Addr × Obj)} {xs ys : List Value} {oa ob : Obj} {ka kb : Nat} {Q : Value → Shared → Prop}
theorem ne_list_same (N : News h₀ L s.heap news) (ma : (a, oa) ∈ news) (ca : oa.cls = .type "list") (da : oa.data = .seq xs.toArray ka) (mb : (b, ob) ∈ news) (cb : ob.cls = .type "list") (db : ob.data = .seq ys.toArray kb)
    (e : EqVs xs ys) (hu : A.units + 64 < cLine) (h : Q (.bool false) s) : wpAny (model prog w) A (compareOp .NotEq (.ref a) (.ref b)) Q E s := by
  refine RcNeAt.lists (e := fun _ => true) ⟨oa, N.get ma, ca, _, da⟩ ⟨ob, N.get mb, cb, _, db⟩ (by simpa using e.len) (by omega) e.at prog w E Q ?_
  rw [all_true]
  exact h
theorem ne_tuple_same (N : News h₀ L s.heap news) (ma : (a, oa) ∈ news) (ca : oa.cls = .type "tuple") (da : oa.data = .seq xs.toArray ka) (mb : (b, ob) ∈ news) (cb : ob.cls = .type "tuple") (db : ob.data = .seq ys.toArray kb)
    (e : EqVs xs ys) (hu : A.units + 64 < cLine) (h : Q (.bool false) s) : wpAny (model prog w) A (compareOp .NotEq (.ref a) (.ref b)) Q E s := by
  refine RcNeAt.tuples (e := fun _ => true) ⟨oa, N.get ma, ca, _, da⟩ ⟨ob, N.get mb, cb, _, db⟩ (by omega) e.at prog w E Q ?_
  have hl : (xs.toArray.size == ys.toArray.size) = true := by simpa using e.len
  rw [all_true, hl]
  exact h
end
end Mine
end

noncomputable section
open PySem PySem.W PySem.Spec PySem.Calls PyProof.Rows PyProof.Rows.LCg
set_option maxRecDepth 100000
namespace Mine
section
variable {prog : Program} {w : World} {A : Around} {E : Value → Shared → Prop} {s : Shared}
theorem pyNext_rz_item {z TI TO i1 i2 l2 : Addr} {k1 k2 : Nat} {l : List UInt8} {tl : Tok} {ys : Array Value} {y a b : Value} {Q : Option Value → Shared → Prop} (D : RzApart z TI TO i1 i2 l2) (hsl : l.length ≤ 100000) (hk1 : k1 < l.length)
    (hz : IsZip s.heap z TI TO .none) (hTI : IsPair s.heap TI (.ref i1) (.ref i2)) (hTO : IsPair s.heap TO a b)
    (h1 : IsRev s.heap i1 l.toArray tl (k1 : Int)) (h2 : s.heap.IsListIter i2 l2 k2) (hl2 : s.heap.IsList l2 ys) (hy : ys[k2]? = some y)
    (hQ : ∀ h' t' k, IsZip h' z TI TO (rawInt s.heap.objs.size) → IsPair h' TO (.int (l.getD k1 0).toNat t') y → IsRev h' i1 l.toArray tl ((k1 : Int) - 1) → h'.IsListIter i2 l2 (k2 + 1) → IsPair h' s.heap.objs.size (.int (l.getD k1 0).toNat t') y → h'.objs.size = s.heap.objs.size + 1 →
      (∀ c o, c ≠ z → c ≠ TO → c ≠ i1 → c ≠ i2 → s.heap.get? c = some o → h'.get? c = some o) → Q (some (.ref s.heap.objs.size)) { s with heap := h', toks := k }) :
    wpAny (model prog w) A (pyNext (.ref z)) Q E s := by
  have hT : s.TypeIs (.ref z) "zip" := ⟨_, hz, rfl⟩
  unfold pyNext
  exact wpAny_bind (wpAny_attempt (wpAny_callSpecial?_slot (name := Str.ofString "__next__") hT F.slot_zip_next
    (wpAny_call_entry F.slot_zip_next hT F.entry_zip_next
      (rz_next_item D hsl hk1 hz hTI hTO h1 h2 hl2 hy fun h' t' k a1 a2 a3 a4 a5 a6 a7 => wpAny_pure (hQ h' t' k a1 a2 a3 a4 a5 a6 a7)) (F.args_zip_next_1 _))))
theorem pyNext_rz_end {z TI TO i1 i2 l2 : Addr} {c : Array UInt8} {tl : Tok} {a b : Value} {Q : Option Value → Shared → Prop} (hh : A.handled = none) (D : RzApart z TI TO i1 i2 l2)
    (hz : IsZip s.heap z TI TO .none) (hTI : IsPair s.heap TI (.ref i1) (.ref i2)) (hTO : IsPair s.heap TO a b) (h1 : IsRev s.heap i1 c tl (-1))
    (hQ : ∀ h', (∀ c o, c ≠ z → c ≠ TO → c ≠ i1 → c ≠ i2 → s.heap.get? c = some o → h'.get? c = some o) → Q none { s with heap := h' }) : wpAny (model prog w) A (pyNext (.ref z)) Q E s := by
  have hT : s.TypeIs (.ref z) "zip" := ⟨_, hz, rfl⟩
  unfold pyNext
  refine wpAny_bind (wpAny_attempt (wpAny_callSpecial?_slot (name := Str.ofString "__next__") hT F.slot_zip_next
    (wpAny_call_entry F.slot_zip_next hT F.entry_zip_next (rz_next_end hh D hz hTI hTO h1 fun h' e hk he => ?_) (F.args_zip_next_1 _))))
  obtain ⟨o, ho, hc⟩ := he
  refine wpAny_bind (wpAny_isInstance (T := "StopIteration") (b := true) ⟨o, ho, hc⟩ isSubtype_stop ?_)
  exact wpAny_pure (hQ _ hk)
theorem walks_rz (hh : A.handled = none) (z TI TO i1 i2 l2 : Addr) (D : RzApart z TI TO i1 i2 l2) (l : List UInt8) (tl : Tok) (hsl : l.length ≤ 100000) (ys : Array Value) (hn : ys.size = l.length) :
    WalksU prog w A z [z, TI, TO, i1, i2, l2] [z, TO, i1, i2] l.length
      (fun i vals => i < l.length ∧ ∃ t y, ys[i]? = some y ∧ vals = #[.int (l.getD (l.length - 1 - i) 0).toNat t, y])
      (fun i h => IsZip h z TI TO .none ∧ IsPair h TI (.ref i1) (.ref i2) ∧ (∃ a b, IsPair h TO a b) ∧ IsRev h i1 l.toArray tl ((l.length : Int) - 1 - i) ∧ h.IsListIter i2 l2 i ∧ h.IsList l2 ys)
      (fun i T h => IsZip h z TI TO (rawInt T) ∧ IsPair h TI (.ref i1) (.ref i2) ∧ (∃ a b, IsPair h TO a b) ∧ IsRev h i1 l.toArray tl ((l.length : Int) - 1 - (i + 1 : Nat)) ∧ h.IsListIter i2 l2 (i + 1) ∧ h.IsList l2 ys ∧ T ≠ z ∧ T ≠ TO ∧ T ≠ i1 ∧ T ≠ i2) where
  sub := fun c hc => by simp at hc ⊢; rcases hc with rfl | rfl | rfl | rfl <;> simp
  frame := fun i h h' hst hk => by
    obtain ⟨hz, hTI, ⟨a, b, hTO⟩, h1, h2, hl2⟩ := hst
    exact ⟨hk z (by simp) _ hz, hk TI (by simp) _ hTI, ⟨a, b, hk TO (by simp) _ hTO⟩, hk i1 (by simp) _ h1, h2.at fun o e => hk i2 (by simp) o e, hl2.at fun o e => hk l2 (by simp) o e⟩
  item := fun i s Q E hi hst hQ => by
    obtain ⟨hz, hTI, ⟨a, b, hTO⟩, h1, h2, hl2⟩ := hst
    have e1 : (l.length : Int) - 1 - (i : Int) = ((l.length - 1 - i : Nat) : Int) := by omega
    rw [e1] at h1
    refine pyNext_rz_item D hsl (by omega) hz hTI hTO h1 h2 hl2 (Array.getElem?_eq_getElem (by omega)) fun h' t' k a1 a2 a3 a4 a5 a6 hk => ?_
    have lt : ∀ {c o}, s.heap.get? c = some o → s.heap.objs.size ≠ c := fun e => Nat.ne_of_gt (Heap.lt_size e)
    have e2 : ((l.length - 1 - i : Nat) : Int) - 1 = (l.length : Int) - 1 - ((i + 1 : Nat) : Int) := by omega
    rw [e2] at a3
    exact hQ s.heap.objs.size _ h' k ⟨hi, _, _, Array.getElem?_eq_getElem (by omega), rfl⟩ ⟨_, a5, rfl, _, rfl⟩
      ⟨a1, hk _ _ D.TIz D.TITO D.TIi1 D.TIi2 hTI, ⟨_, _, a2⟩, a3, a4, hl2.at fun o e => hk _ o D.l2z D.l2TO D.l2i1 D.l2i2 e,
        lt hz, lt hTO, lt h1, (by obtain ⟨_, e, _⟩ := h2; exact lt e)⟩
      fun c o hc e => hk c o (fun x => hc (by simp [x])) (fun x => hc (by simp [x])) (fun x => hc (by simp [x])) (fun x => hc (by simp [x])) e
  go := fun elts k pos i T s Q E hm hQ => by
    obtain ⟨hz, hTI, ⟨a, b, hTO⟩, h1, h2, hl2, _⟩ := hm
    refine wpAny_letOwnedTupleGo_zip hz fun h' hz' hs' => hQ h' ⟨hz', hs'.extBut _ _ D.TIz hTI, ⟨a, b, hs'.extBut _ _ D.TOz hTO⟩, h1.extBut hs'.extBut D.i1z, h2.extBut hs'.extBut D.i2z,
      hl2.extBut hs'.extBut D.l2z⟩ fun c o hc e => hs'.extBut _ _ (fun x => hc (by simp [x])) e
  apart := fun i T h hm hT => by
    obtain ⟨_, _, _, _, _, _, t1, t2, t3, t4⟩ := hm
    simp at hT
    rcases hT with rfl | rfl | rfl | rfl
    · exact t1 rfl
    · exact t2 rfl
    · exact t3 rfl
    · exact t4 rfl
  done := fun s Q E hst hQ => by
    obtain ⟨hz, hTI, ⟨a, b, hTO⟩, h1, h2, hl2⟩ := hst
    have e1 : (l.length : Int) - 1 - (l.length : Int) = -1 := by omega
    rw [e1] at h1
    exact pyNext_rz_end hh D hz hTI hTO h1 fun h' hk => hQ h' s.toks fun c o hc e =>
      hk c o (fun x => hc (by simp [x])) (fun x => hc (by simp [x])) (fun x => hc (by simp [x])) (fun x => hc (by simp [x])) e
  self := fun i s Q E hst hQ => wpAny_pyIter_zip hst.1 hQ
variable {h₀ : Heap} {L : Addr} {m : Str → Option Value} {env : Env}
theorem range_snoc (f : Nat → Int) (i : Nat) : (List.range (i + 1)).map f = (List.range i).map f ++ [f i] := by rw [List.range_succ, List.map_append]; rfl
theorem ints_snocZ {ys : List Value} {ns : List Int} {k : Int} {t : Tok} (h : IntsAre ys ns) : IntsAre (ys ++ [.int k t]) (ns ++ [k]) := by
  induction h with
  | nil => exact .cons _ _ .nil
  | cons n t _ ih => exact .cons n t ih
theorem block_Z {elt iter : PySem.Expr} {a b : Str} {pa pb tp : Pos} {kk : Nat} {scope : Scope} {cl : List (Str × Addr)} {pos : Pos} {s₂ : Shared} {I : Addr} {fp wr : List Addr} {n : Nat} {P Md : Nat → Value → Heap → Prop} {St : Nat → Heap → Prop} {G : Nat → Value → Value → Prop} {f : Nat → Int} {news : List (Addr × Obj)}
    {RR : Value → Addr → Result → Shared → Prop}
    (hh : A.handled = none) (W : KTurns prog w A (.Tuple [.Name a pa, .Name b pb] kk tp) I fp wr n P Md St) (hself : ∀ (s : Shared) (Q : Value → Shared → Prop) (E : Value → Shared → Prop), St 0 s.heap → Q (.ref I) s → wpAny (model prog w) A (pyIter (.ref I)) Q E s)
    (hP : ∀ i v h, P i v h → ∃ T x y, v = .ref T ∧ Heap.IsTuple h T #[x, y] ∧ G i x y)
    (hsz : n ≤ sizeLine) (hfp : ∀ c ∈ fp, c < s₂.heap.objs.size) (hLf : L ∉ fp) (hwr : ∀ c ∈ wr, h₀.get? c = none) (hnw : ∀ p ∈ news, p.1 ∉ wr) (hst : St 0 s₂.heap)
    (hcell : ∀ y ∈ scope.names, y.2 ≠ .cell) (hkind : scope.kind = .function) (hxa : scope.names.lookup a = some .local) (hxb : scope.names.lookup b = some .local) (hab : ¬ a = b)
    (helt : ∀ i x y C m₂ h tk (E' : Value → Shared → Prop) (Q' : Value → Shared → Prop), i < n → G i x y → h.Ns C m₂ → m₂ a = some x → m₂ b = some y → (∀ t tk', Q' (.int (f i) t) { s₂ with heap := h, toks := tk' }) →
      wpAny (model prog w) A (eval elt (compEnvC scope cl C env)) Q' E' { s₂ with heap := h, toks := tk })
    (F : Fr h₀ L s₂.heap m) (N : News h₀ L s₂.heap news)
    (hRR : ∀ D C h tk m' ys, Fr h₀ L h m → News h₀ L h ((D, lst ys) :: news) → (∀ p ∈ news, p.1 ≠ D) → h.Ns C m' → h₀.get? C = none → h₀.get? D = none → C ≠ L → D ≠ L → C ≠ D → (∀ p ∈ news, p.1 ≠ C) → IntsAre ys ((List.range n).map f) → RR (.ref D) C (.ok .next) { s₂ with heap := h, toks := tk }) :
    wpAny (model prog w) A (newList []) (fun acc s₃ => wpAny (model prog w) A (newFunctionEnv scope env.globals cl [] env.qual none .none (some env)) (fun cenv s₄ =>
      codeAny (model prog w) A (.compStart (.ListComp elt [⟨.Tuple [.Name a pa, .Name b pb] kk tp, iter, [], 0⟩] scope pos) 0 (.ref I) acc { cenv with scope := relabel scope env }) (RR acc cenv.locals) s₄) E s₃) E s₂ := by
  refine wpAny_newObj_type (wpAny_newFunctionEnv hcell (by intro y hy; simp at hy) (fun h₁ hns₁ hsb₁ => ?_) hkind)
  dsimp only at hns₁ hsb₁ ⊢
  generalize hH2 : s₂.heap.push { cls := .type "list", dict := none, data := .seq ([] : List Value).toArray } = H2 at hns₁ hsb₁ ⊢
  have hC : H2.objs.size = s₂.heap.objs.size + 1 := by rw [← hH2, Heap.size_push]
  have hDC : s₂.heap.objs.size ≠ H2.objs.size := by rw [hC]; exact Nat.ne_of_lt (Nat.lt_succ_self _)
  have below : ∀ b, b < s₂.heap.objs.size → b ≠ H2.objs.size ∧ b ≠ s₂.heap.objs.size := fun b hb => ⟨by rw [hC]; exact Nat.ne_of_lt (Nat.lt_succ_of_lt hb), Nat.ne_of_lt hb⟩
  have hDf : s₂.heap.objs.size ∉ fp := fun hm => Nat.lt_irrefl _ (hfp _ hm)
  have hCf : H2.objs.size ∉ fp := fun hm => by have := hfp _ hm; rw [hC] at this; exact Nat.lt_irrefl _ (Nat.lt_of_succ_lt this)
  have hDw : s₂.heap.objs.size ∉ wr := fun hm => hDf (W.sub _ hm)
  have hCw : H2.objs.size ∉ wr := fun hm => hCf (W.sub _ hm)
  have hLw : L ∉ wr := fun hm => hLf (W.sub _ hm)
  have old : ∀ b o, s₂.heap.get? b = some o → h₁.get? b = some o := fun b o e => hsb₁.extBut b o (below b (Heap.lt_size e)).1 (Heap.get?_push_of_some _ (hH2 ▸ Heap.get?_push_of_some _ e))
  have hacc : h₁.get? s₂.heap.objs.size = some (lst []) := hsb₁.extBut _ _ hDC (Heap.get?_push_of_some _ (hH2 ▸ Heap.get?_push_size _ rfl))
  have hst₁ : St 0 h₁ := W.frame _ _ _ hst fun b _ o e => old b o e
  have fresh : ∀ a, s₂.heap.objs.size ≤ a → s₂.heap.get? a = none := fun a ha => by
    cases e : s₂.heap.get? a with
    | none => rfl
    | some o' => exact absurd (Heap.lt_size e) (Nat.not_lt.mpr ha)
  have fresh₀ : ∀ a, s₂.heap.objs.size ≤ a → h₀.get? a = none := fun a ha => by
    cases e : h₀.get? a with
    | none => rfl
    | some o' => have := F.keep a o' e; rw [fresh a ha] at this; cases this
  have hD₀ : h₀.get? s₂.heap.objs.size = none := fresh₀ _ (Nat.le_refl _)
  have hC₀ : h₀.get? H2.objs.size = none := fresh₀ _ (by rw [hC]; exact Nat.le_succ _)
  have hLlt : L < s₂.heap.objs.size := F.ns.lt
  have hDL : s₂.heap.objs.size ≠ L := Ne.symm (below L hLlt).2
  have hCL : H2.objs.size ≠ L := Ne.symm (below L hLlt).1
  have offD : ∀ p ∈ news, p.1 ≠ s₂.heap.objs.size := fun p hp => (below _ (Heap.lt_size (N p hp).1)).2
  have offC : ∀ p ∈ news, p.1 ≠ H2.objs.size := fun p hp => (below _ (Heap.lt_size (N p hp).1)).1
  have old₀ : ∀ b o, h₀.get? b = some o → b ∉ wr := fun b o e hb => by rw [hwr b hb] at e; cases e
  have loop : ∀ s₃ : Shared, s₃ = { s₂ with heap := h₁, toks := s₂.toks + ([] : List (Str × Value)).length } →
      codeAny (model prog w) A (.compLoop (.ListComp elt [⟨.Tuple [.Name a pa, .Name b pb] kk tp, iter, [], 0⟩] scope pos) 0 (.ref I) (.ref s₂.heap.objs.size) (compEnvC scope cl H2.objs.size env))
        (RR (.ref s₂.heap.objs.size) H2.objs.size) s₃ := by
    rintro s₃ rfl
    refine kcp_loop
      (fun k s' => ∃ h' tk i ys m', s' = { s₂ with heap := h', toks := tk } ∧ i ≤ n ∧ k = n + 1 - i ∧ ys.length = i ∧ IntsAre ys ((List.range i).map f) ∧ St i h' ∧ Fr h₀ L h' m ∧ h'.Ns H2.objs.size m' ∧
        News h₀ L h' ((s₂.heap.objs.size, lst ys) :: news)) ?_ (n + 1)
      ⟨h₁, _, 0, [], _, rfl, Nat.zero_le _, rfl, rfl, .nil, hst₁, F.keeps old, hns₁, fun p hp => ?_⟩
    · rintro k s' ⟨h', tk, i, ys, m', rfl, hi, rfl, hyl, hia, hst', F', hn', N'⟩
      by_cases hlt : i < n
      · refine W.item i _ _ _ hlt hst' fun v h₂ tk₂ hMd hk₂ => ?_
        refine W.go i v _ _ _ hMd fun h₃ hPv hst₃ hk₃ => ?_
        obtain ⟨T, x, y, rfl, hT, hG⟩ := hP _ _ _ hPv
        have up₃ : ∀ c o, c ∉ wr → h'.get? c = some o → h₃.get? c = some o := fun c o hc e => hk₃ c o hc (hk₂ c o hc e)
        refine kcp_assign (env := compEnvC scope cl H2.objs.size env) hh hT (lookup_relabel_local hxa) (lookup_relabel_local hxb) (by simp [compEnvC, relabel, hkind]) (hn'.at' fun o e => up₃ _ o hCw e) fun h₄ tk₄ hn₄ hs₄ => ?_
        have up : ∀ c o, c ∉ wr → c ≠ H2.objs.size → h'.get? c = some o → h₄.get? c = some o := fun c o h1 h2 e => hs₄ c o h2 (up₃ c o h1 e)
        have hst₄ : St (i + 1) h₄ := W.frame _ _ _ hst₃ fun c hc o e => hs₄ c o (fun q => hCf ((show c = H2.objs.size from q) ▸ hc)) e
        have F₄ : Fr h₀ L h₄ m := ⟨F'.ns.at' fun o e => up _ o hLw (Ne.symm hCL) e, fun c o e => up c o (old₀ c o e) (fun q => by rw [q, hC₀] at e; cases e) (F'.keep c o e), F'.above⟩
        have N₄ : News h₀ L h₄ ((s₂.heap.objs.size, lst ys) :: news) := fun q hq => by
          have z := N' q hq
          refine ⟨up _ _ ?_ ?_ z.1, z.2⟩
          · rcases List.mem_cons.mp hq with rfl | hq
            · exact hDw
            · exact hnw q hq
          · rcases List.mem_cons.mp hq with rfl | hq
            · exact hDC
            · exact offC q hq
        refine helt i x y H2.objs.size _ h₄ _ _ _ hlt hG hn₄ (by simp [hab]) (by simp) fun t tk₅ => ?_
        have zD := (N₄ (s₂.heap.objs.size, lst ys) List.mem_cons_self).1
        refine append_at (hsz := by show ys.toArray.size ≤ sizeLine; rw [List.size_toArray, hyl]; exact Nat.le_trans hi hsz) zD fun h₆ hs₆ hD₆ => ?_
        refine ⟨n + 1 - (i + 1), by omega, h₆, tk₅, i + 1, ys ++ [.int (f i) t], _, rfl, hlt, rfl, by rw [List.length_append, List.length_singleton, hyl], ?_, W.frame _ _ _ hst₄ fun c hc o e => hs₆.extBut c o (fun q => hDf (q ▸ hc)) e, F₄.change hs₆ hDL hD₀, hn₄.sameBut hs₆ (Ne.symm hDC), fun q hq => ?_⟩
        · rw [range_snoc]; exact ints_snocZ hia
        · rcases List.mem_cons.mp hq with rfl | hq
          · exact ⟨hD₆.trans (congrArg some (lst_snoc ys _)), hDL, hD₀⟩
          · exact ⟨hs₆.extBut _ _ (offD q hq) (N₄ q (List.mem_cons_of_mem _ hq)).1, (N₄ q (List.mem_cons_of_mem _ hq)).2⟩
      · have hin : i = n := Nat.le_antisymm hi (Nat.not_lt.mp hlt)
        subst hin
        refine W.done _ _ _ hst' fun h₂ tk₂ hk₂ => ?_
        exact hRR _ _ h₂ tk₂ _ ys ⟨F'.ns.at' fun o e => hk₂ _ o hLw e, fun c o e => hk₂ c o (old₀ c o e) (F'.keep c o e), F'.above⟩ (fun q hq => by
          have z := N' q hq
          refine ⟨hk₂ _ _ ?_ z.1, z.2⟩
          rcases List.mem_cons.mp hq with rfl | hq
          · exact hDw
          · exact hnw q hq) offD (hn'.at' fun o e => hk₂ _ o hCw e) hC₀ hD₀ hCL hDL (Ne.symm hDC) offC hia
    · rcases List.mem_cons.mp hp with rfl | hp
      · exact ⟨hacc, hDL, hD₀⟩
      · exact ⟨old _ _ (N p hp).1, (N p hp).2⟩
  exact codeAny_compStart_list (loop _ rfl) (hself _ _ _ hst₁ (loop _ rfl))
abbrev rzH1 (h : Heap) (l2 : Addr) : Heap := h.push { cls := .type "list_iterator", data := .fields #[.ref l2, .int 0 0] }
abbrev rzH2 (h : Heap) (a l2 : Addr) : Heap := (rzH1 h l2).push { cls := .type "tuple", data := .seq #[.ref a, .ref h.objs.size] }
abbrev rzH3 (h : Heap) (a l2 : Addr) : Heap := (rzH2 h a l2).push { cls := .type "tuple", data := .seq #[.none, .none] }
abbrev rzH4 (h : Heap) (a l2 : Addr) : Heap := (rzH3 h a l2).push { cls := .type "zip", data := .fields #[.none, .bool false, .bool false, .ref (rzH1 h l2).objs.size, .ref (rzH2 h a l2).objs.size] }
theorem meets_rz_new (a l2 : Addr) (b : Array UInt8) (tl : Tok) (i : Int) (ys : Array Value) :
    Meets (Builtin.«zip.__new__» ⟨[.type "zip", .ref a, .ref l2], []⟩) (fun _ R s => IsRev s.heap a b tl i ∧ s.heap.IsList l2 ys ∧
      R (.ok (.ret (.ref (rzH3 s.heap a l2).objs.size))) { s with heap := rzH4 s.heap a l2 }) :=
  .of_wp fun prog w A R s h => by
    obtain ⟨hp, g, d, tk, os⟩ := s; obtain ⟨hl1, hl2, h⟩ := h
    have hsub := sub_zip
    have hL1 : IsRev (Shared.heap ⟨hp, g, d, tk, os⟩) a b tl i := hl1
    have hL2 : Heap.IsList (Shared.heap ⟨hp, g, d, tk, os⟩) l2 ys := hl2
    wp_walk using iter_rev hL1, wpAny_pyIter_list hL2
    exact ⟨_, rfl, h⟩
theorem call_rz {a l2 : Addr} {b : Array UInt8} {tl : Tok} {i : Int} {ys : Array Value} {Q : Value → Shared → Prop} (hl1 : IsRev s.heap a b tl i) (hl2 : s.heap.IsList l2 ys)
    (h : ∀ h', IsZip h' (s.heap.objs.size + 3) (s.heap.objs.size + 1) (s.heap.objs.size + 2) .none → IsPair h' (s.heap.objs.size + 1) (.ref a) (.ref s.heap.objs.size) →
      IsPair h' (s.heap.objs.size + 2) .none .none → h'.IsListIter s.heap.objs.size l2 0 → h'.objs.size = s.heap.objs.size + 4 →
      (∀ c o, s.heap.get? c = some o → h'.get? c = some o) → Q (.ref (s.heap.objs.size + 3)) { s with heap := h' }) :
    wpAny (model prog w) A (call (.type "zip") [.ref a, .ref l2]) Q E s := by
  refine callType_new F.called_zip (by decide) (F.typeCall_zip_2 _ _) (F.newCall_zip_2 _ _) (fun obj => F.args_object_init_3 obj _ _) F.entry_zip_new
    (meets_rz_new a l2 b tl i ys) ⟨hl1, hl2, ?_⟩
  have z1 : (rzH1 s.heap l2).objs.size = s.heap.objs.size + 1 := Heap.size_push ..
  have z2 : (rzH2 s.heap a l2).objs.size = s.heap.objs.size + 2 := by rw [Heap.size_push, z1]
  have z3 : (rzH3 s.heap a l2).objs.size = s.heap.objs.size + 3 := by rw [Heap.size_push, z2]
  have z4 : (rzH4 s.heap a l2).objs.size = s.heap.objs.size + 4 := by rw [Heap.size_push, z3]
  have g4 : (rzH4 s.heap a l2).get? (rzH3 s.heap a l2).objs.size = some _ := Heap.get?_push_size _ rfl
  have g3 : (rzH4 s.heap a l2).get? (rzH2 s.heap a l2).objs.size = some _ := Heap.get?_push_of_some _ (Heap.get?_push_size _ rfl)
  have g2 : (rzH4 s.heap a l2).get? (rzH1 s.heap l2).objs.size = some _ := Heap.get?_push_of_some _ (Heap.get?_push_of_some _ (Heap.get?_push_size _ rfl))
  have g1 : (rzH4 s.heap a l2).get? s.heap.objs.size = some _ := Heap.get?_push_of_some _ (Heap.get?_push_of_some _ (Heap.get?_push_of_some _ (Heap.get?_push_size _ rfl)))
  show _ ∧ _
  rw [z1, z2, z3] at g4
  rw [z1] at g2
  rw [z2] at g3
  rw [z3]
  exact ⟨⟨_, g4, rfl⟩, h _ g4 g2 g3 ⟨_, g1, rfl, rfl⟩ z4 fun c o x =>
    Heap.get?_push_of_some _ (Heap.get?_push_of_some _ (Heap.get?_push_of_some _ (Heap.get?_push_of_some _ x)))⟩
def RzReady (h₀ : Heap) (L : Addr) (h : Heap) (z : Addr) (l : List UInt8) (xs : List Value) (news : List (Addr × Obj)) : Prop :=
  ∃ TI TO i1 i2 l2 tl, RzApart z TI TO i1 i2 l2 ∧ IsZip h z TI TO .none ∧ IsPair h TI (.ref i1) (.ref i2) ∧ (∃ a b, IsPair h TO a b) ∧ IsRev h i1 l.toArray tl ((l.length : Int) - 1 - (0 : Nat)) ∧ h.IsListIter i2 l2 0 ∧ h.IsList l2 xs.toArray ∧
    L ∉ [z, TI, TO, i1, i2, l2] ∧ (∀ c ∈ [z, TO, i1, i2], h₀.get? c = none) ∧ (∀ p ∈ news, p.1 ∉ [z, TO, i1, i2]) ∧ News h₀ L h news
theorem rz_apart {n a l2 : Nat} (h1 : a < n) (h2 : l2 < n) (h : a ≠ l2) : RzApart (n + 3) (n + 1) (n + 2) a n l2 := by
  constructor <;> (refine neN ?_; omega)
theorem call_zip_ready {a l2 : Addr} {l : List UInt8} {tl : Tok} {xs : List Value} {c : Nat} {news : List (Addr × Obj)} {Q : Value → Shared → Prop} (F : Fr h₀ L s.heap m)
    (N : News h₀ L s.heap ((l2, ({ cls := .type "list", data := .seq xs.toArray c } : Obj)) :: (a, revO l.toArray tl ((l.length : Int) - 1)) :: news)) (hne : a ≠ l2) (hoff : ∀ p ∈ news, p.1 ≠ a)
    (h : ∀ z h', Fr h₀ L h' m → RzReady h₀ L h' z l xs news → Q (.ref z) { s with heap := h' }) :
    wpAny (model prog w) A (call (.type "zip") [.ref a, .ref l2]) Q E s := by
  have Na := N _ (List.mem_cons_of_mem _ List.mem_cons_self)
  have Nl := N _ List.mem_cons_self
  have ha : a < s.heap.objs.size := Heap.lt_size Na.1
  have hl : l2 < s.heap.objs.size := Heap.lt_size Nl.1
  have hL : L < s.heap.objs.size := F.ns.lt
  have fresh₀ : ∀ c, s.heap.objs.size ≤ c → h₀.get? c = none := fun c hc => by
    cases e : h₀.get? c with
    | none => rfl
    | some o' => exact absurd (Heap.lt_size (F.keep c o' e)) (Nat.not_lt.mpr hc)
  refine call_rz (b := l.toArray) (tl := tl) (i := (l.length : Int) - 1) Na.1 ⟨_, Nl.1, rfl, _, rfl⟩ fun h' hz hTI hTO hi hsz hk => ?_
  refine h _ h' (F.keeps hk) ⟨_, _, _, _, l2, tl, rz_apart ha hl hne, hz, hTI, ⟨_, _, hTO⟩, ?_, hi, ⟨_, hk _ _ Nl.1, rfl, _, rfl⟩, ?_, ?_, ?_, ?_⟩
  · have e : (l.length : Int) - 1 - ((0 : Nat) : Int) = (l.length : Int) - 1 := by omega
    rw [e]
    exact hk _ _ Na.1
  · have a1 := Na.2.1
    have l1 := Nl.2.1
    intro hm
    simp only [List.mem_cons, List.not_mem_nil, or_false] at hm
    have hn := ktu_ne (a := L) (I := s.heap.objs.size)
    rcases hm with e | e | e | e | e | e
    · exact hn 3 hL e
    · exact hn 1 hL e
    · exact hn 2 hL e
    · exact a1 e.symm
    · exact hn 0 hL e
    · exact l1 e.symm
  · intro c hc
    simp only [List.mem_cons, List.not_mem_nil, or_false] at hc
    rcases hc with rfl | rfl | rfl | rfl
    · exact fresh₀ _ (Nat.le_add_right _ _)
    · exact fresh₀ _ (Nat.le_add_right _ _)
    · exact Na.2.2
    · exact fresh₀ _ (Nat.le_refl _)
  · intro p hp hc
    have hpl : p.1 < s.heap.objs.size := Heap.lt_size (N p (List.mem_cons_of_mem _ (List.mem_cons_of_mem _ hp))).1
    have := hoff p hp
    have hn := ktu_ne (a := p.1) (I := s.heap.objs.size)
    simp only [List.mem_cons, List.not_mem_nil, or_false] at hc
    rcases hc with e | e | e | e
    · exact hn 3 hpl e
    · exact hn 2 hpl e
    · exact this e
    · exact hn 0 hpl e
  · exact fun p hp => ⟨hk _ _ (N p (List.mem_cons_of_mem _ (List.mem_cons_of_mem _ hp))).1, (N p (List.mem_cons_of_mem _ (List.mem_cons_of_mem _ hp))).2⟩
end
end Mine
end

noncomputable section
open PySem PySem.W PySem.Spec PySem.Calls PyProof.Rows PyProof.Rows.LCg
set_option maxRecDepth 100000
namespace Mine
theorem ints_get {xs : List Value} {ps : List Int} (h : IntsAre xs ps) : ∀ (i : Nat) (y : Value), xs[i]? = some y → ∃ t, y = .int (ps.getD i 0) t := by
  induction h with
  | nil => intro i y e; simp at e
  | cons n t _ ih =>
    intro i y e
    cases i with
    | zero => exact ⟨t, by simpa using e.symm⟩
    | succ i => simpa using ih i y (by simpa using e)
theorem getD_mem {ps : List Int} {i : Nat} (h : i < ps.length) : ps.getD i 0 ∈ ps := by
  rw [List.getD_eq_getElem?_getD, List.getElem?_eq_getElem h]
  exact List.getElem_mem h
theorem bits_u8 (c : UInt8) : Builtin.Int.intBits ((c.toNat : Nat) : Int) ≤ 2 ^ 20 := by
  refine intBits_le_iff.mpr ?_
  have h : c.toNat < 256 := c.toNat_lt
  have h2 : (256 : Nat) ≤ 2 ^ (2 ^ 20) := by
    calc (256 : Nat) = 2 ^ 8 := by decide
      _ ≤ 2 ^ (2 ^ 20) := Nat.pow_le_pow_right (by decide) (by decide)
  omega
def prodZ (l : List UInt8) (ps : List Int) : List Int := (List.range l.length).map fun i => (((l.getD (l.length - 1 - i) 0).toNat : Nat) : Int) * ps.getD i 0
section
variable {prog : Program} {w : World} {A : Around} {E : Value → Shared → Prop} {s : Shared} {h₀ : Heap} {L : Addr} {m : Str → Option Value} {env : Env}
def SrcZ (A : Around) (h₀ : Heap) (L : Addr) (m : Str → Option Value) (Q : Value → Shared → Prop) (xv : Value) (s₁ : Shared) : Prop :=
  ∃ z l xs ps news, xv = .ref z ∧ A.handled = none ∧ Fr h₀ L s₁.heap m ∧ RzReady h₀ L s₁.heap z l xs news ∧ l.length ≤ 100000 ∧ IntsAre xs ps ∧ ps.length = l.length ∧ (∀ p ∈ ps, Builtin.Int.intBits p ≤ 2 ^ 20) ∧
    ∀ D h tk ys, Fr h₀ L h m → News h₀ L h ((D, lst ys) :: news) → (∀ p ∈ news, p.1 ≠ D) → IntsAre ys (prodZ l ps) → Q (.ref D) { s₁ with heap := h, toks := tk }
theorem ListComp_Z {iter : PySem.Expr} {a b : Str} {pa pb tp pa' pb' pos' : Pos} {kk : Nat} {scope : Scope} {cl : List (Str × Addr)} {pos : Pos} {Q : Value → Shared → Prop} (_F₀ : Fr h₀ L s.heap m)
    (hclos : closureFor scope env = pure cl) (hcell : ∀ y ∈ scope.names, y.2 ≠ .cell) (hkind : scope.kind = .function)
    (hnames : ∀ y ∈ scope.names, y.2 = .local → scope.names.lookup y.1 = some .local) (hxa : scope.names.lookup a = some .local) (hxb : scope.names.lookup b = some .local) (hab : ¬ a = b)
    (hda : (a == ("__debug__" : Str)) = false) (hdb : (b == ("__debug__" : Str)) = false)
    (h : wpAny (model prog w) A (eval iter env) (SrcZ A h₀ L m Q) E s)
    (hs : ∀ x, foldedSetIterable iter env x = pure x := by intro _; rfl) :
    wpAny (model prog w) A (eval (.ListComp (.BinOp (.Name a pa') .Mult (.Name b pb') pos') [⟨.Tuple [.Name a pa, .Name b pb] kk tp, iter, [], 0⟩] scope pos) env) Q E s := by
  rw [eval_ListComp]
  refine wpAny_comprehension_free (use := none) rfl hs hclos hkind hnames (wpAny_mono h (fun xv s₁ h₁ => ?_) fun _ _ e => e)
  obtain ⟨z, l, xs, ps, news, rfl, hh, F, R, hl, hi, hlen, hbits, fin⟩ := h₁
  obtain ⟨TI, TO, i1, i2, l2, tl, D, hz, hTI, hTO, h1, h2, hl2, hLf, hwr, hnw, N⟩ := R
  have hxl : xs.toArray.size = l.length := by rw [List.size_toArray, hi.length, hlen]
  have W := walks_rz (prog := prog) (w := w) hh z TI TO i1 i2 l2 D l tl hl xs.toArray hxl
  refine wpAny_pyIter_zip hz ?_
  refine block_Z (G := fun i x y => ∃ t, x = .int (((l.getD (l.length - 1 - i) 0).toNat : Nat) : Int) t ∧ xs.toArray[i]? = some y) (f := fun i => (((l.getD (l.length - 1 - i) 0).toNat : Nat) : Int) * ps.getD i 0) (a := a) (b := b)
    hh (KTurns.ofWalksU W) (fun s Q E st hq => W.self 0 s Q E st hq) ?_ (by rw [sizeLine_eq]; omega) ?_ hLf hwr hnw ⟨hz, hTI, hTO, h1, h2, hl2⟩ hcell hkind hxa hxb hab ?_ F N ?_
  · rintro i v h ⟨T, vals, rfl, ⟨_, t, y, hy, rfl⟩, hT⟩
    exact ⟨T, _, y, rfl, hT, t, rfl, hy⟩
  · intro c hc
    simp only [List.mem_cons, List.not_mem_nil, or_false] at hc
    rcases hc with rfl | rfl | rfl | rfl | rfl | rfl
    · exact Heap.lt_size hz
    · exact Heap.lt_size hTI
    · obtain ⟨_, _, q⟩ := hTO; exact Heap.lt_size q
    · exact Heap.lt_size h1
    · obtain ⟨_, q, _⟩ := h2; exact Heap.lt_size q
    · obtain ⟨_, q, _⟩ := hl2; exact Heap.lt_size q
  · rintro i x y C m₂ h tk E' Q' hlt ⟨t, rfl, hy⟩ hns hx hy' hq
    obtain ⟨u, rfl⟩ := ints_get hi i y (by simpa using hy)
    refine wpAny_BinOp (wpAny_Name (wpAny_loadName_local (by simp [compEnvC, relabel, hkind]) (lookup_relabel_local hxa) hns hx ?_) hda)
    refine wpAny_Name (wpAny_loadName_local (by simp [compEnvC, relabel, hkind]) (lookup_relabel_local hxb) hns hy' ?_) hdb
    exact mul_int (hq _ _) (IntMulOk.of_bits (bits_u8 _) (hbits _ (getD_mem (by omega))))
  · intro D C h tk m' ys F' N' offD hn hC₀ hD₀ hCL hDL hCD offC hy
    refine ⟨m', hn, fun h'' hs'' => fin D h'' tk ys (F'.change hs'' hCL hC₀) (fun p hp => ?_) offD hy⟩
    refine ⟨hs''.extBut _ _ ?_ (N' p hp).1, (N' p hp).2⟩
    rcases List.mem_cons.mp hp with rfl | hp
    · exact Ne.symm hCD
    · exact offC p hp
theorem rev_L {l : List UInt8} {t : Tok} {news : List (Addr × Obj)} {Q : Value → Shared → Prop} (F : Fr h₀ L s.heap m) (N : News h₀ L s.heap news) (hz : l.length ≤ 100000)
    (h : ∀ D h' tk', Fr h₀ L h' m → News h₀ L h' ((D, revO l.toArray t ((l.length : Int) - 1)) :: news) → (∀ p ∈ news, p.1 < D) → Q (.ref D) { s with heap := h', toks := tk' }) : wpAny (model prog w) A (call (.type "reversed") [.bytes l.toArray t]) Q E s :=
  call_rev hz fun k => h _ _ k (F.push _) (News.push F N _) fun p hp => Heap.lt_size (N p hp).1
end
end Mine
end

noncomputable section
open PySem PySem.W PyProof.Rows
namespace Mine
theorem freshW1 : True := by
  k_with_none
  w_top off
  trivial
local macro_rules | `(tactic| walk_at "subscriptTail") => `(tactic| (k_here; (with_reducible show wpAny _ _ (subscriptTail _ _ (Value.bytes (List.toArray _) _) (Value.int _ _)) _ _ _); (refine item_L (by k_extra "size") (by k_extra "idx") (by k_extra "idx") ?_); intro _ _))
local macro_rules | `(tactic| walk_at "subscriptTail") => `(tactic| (k_here; (with_reducible show wpAny _ _ (subscriptTail _ (Expr.Slice _ _ none _) (Value.bytes (List.toArray _) _) (Value.ref _)) _ _ _); (with_reducible rename Fr _ _ _ _ => F9); (with_reducible rename News _ _ _ _ => N9); (first
  | refine slice_to (s := ⟨_, _, _, _, _⟩) F9 N9 (by k_extra "idx") (by k_extra "size") ?_
  | refine slice_from (s := ⟨_, _, _, _, _⟩) F9 N9 (by k_extra "idx") (by k_extra "size") ?_
  | refine slice_mid (s := ⟨_, _, _, _, _⟩) F9 N9 (by k_extra "idx") (by k_extra "idx") (by k_extra "size") ?_); intro h' t' tk' F' N'; (try k_extra "cut"); (try k_sweep)))
local macro_rules | `(tactic| walk_at "binaryOp Add bytes bytes") => `(tactic| (k_here; (with_reducible show wpAny _ _ (binaryOp Operator.Add (Value.bytes (List.toArray _) _) (Value.bytes (List.toArray _) _)) _ _ _); (refine add_L (by k_extra "size") ?_); intro _ _))
local macro_rules | `(tactic| walk_at "call builtin:len") => `(tactic| (k_here; (with_reducible show wpAny _ _ (call (Value.builtin "len") [Value.bytes (List.toArray _) _]) _ _ _); (refine len_L (by k_extra "size") ?_); intro _ _))
local macro_rules | `(tactic| walk_at "call builtin:ord") => `(tactic| (k_here; (with_reducible show wpAny _ _ (call (Value.builtin "ord") [Value.bytes (List.toArray _) _]) _ _ _); (refine ord_L ?_ (by k_extra "one")); intro _ _))
local macro_rules | `(tactic| walk_at "compareOp NotEq bytes bytes") => `(tactic| (k_here; (with_reducible refine ne_L ?_)))
local macro_rules | `(tactic| walk_at "compareOp Eq bytes bytes") => `(tactic| (k_here; (with_reducible refine eq_L ?_)))
local macro_rules | `(tactic| walk_at "getMethod str") => `(tactic| (k_here; with_reducible refine meth_encode ?_))
local macro_rules | `(tactic| walk_at "getMethod bytes") => `(tactic| (k_here; with_reducible refine meth_hex ?_))
local macro_rules | `(tactic| walk_at "getMethod bytes") => `(tactic| (k_here; with_reducible refine meth_starts ?_))
local macro_rules | `(tactic| walk_at "getMethod bytes") => `(tactic| (k_here; with_reducible refine meth_join ?_))
local macro_rules | `(tactic| walk_at "call builtin:str.encode") => `(tactic| (k_here; (first | refine call_encode8 (by k_extra "ascii") (by k_extra "size") ?_ | refine call_encodeA (by k_extra "ascii") (by k_extra "size") ?_); intro _ _))
local macro_rules | `(tactic| walk_at "call builtin:bytes.hex") => `(tactic| (k_here; (refine call_hex (by k_extra "size") ?_); intro _ _))
local macro_rules | `(tactic| walk_at "call builtin:bytes.startswith") => `(tactic| (k_here; k_dflt (refine call_starts ?_); intro _))
local macro_rules | `(tactic| walk_at "call builtin:_struct.pack") => `(tactic| (k_here; (refine call_pack (by k_extra "idx") (by k_extra "idx") ?_); intro _ _))
local macro_rules | `(tactic| walk_at "call type:type") => `(tactic| (k_here; k_dflt (first | refine call_type_of (typeIs_bytes _ _ _) (by decide +kernel) ?_ | refine call_type_of (typeIs_str _ _ _) (by decide +kernel) ?_ | refine call_type_of (typeIs_int _ _ _) (by decide +kernel) ?_)))
local macro_rules | `(tactic| walk_at "compareOp Is") => `(tactic| (k_here; (with_reducible show wpAny _ _ (compareOp CmpOp.Is (Value.type _) (Value.type _)) _ _ _); (first | refine wpAny_is_self (by rfl) ?_ | refine wpAny_is_other (by rfl) (by decide) ?_)))
local macro_rules | `(tactic| walk_at "compareOp IsNot") => `(tactic| (k_here; (with_reducible show wpAny _ _ (compareOp CmpOp.IsNot (Value.type _) (Value.type _)) _ _ _); (first | refine wpAny_isNot_self (by rfl) ?_ | refine wpAny_isNot_other (by rfl) (by decide) ?_)))
local macro_rules | `(tactic| walk_at "call type:bytes") => `(tactic| (k_here; (with_reducible show wpAny _ _ (call (Value.type "bytes") [Value.ref _]) _ _ _); k_dflt (refine' make_L ?F ?N ?h ?l ?i ?r ?n ?_; (case F => k_asm); (case N => k_asm); (case h => rfl); (case l => kba_isList); (case i => kba_listInts); (case r => k_extra "in"); (case n => k_extra "size")); intro h' t' tk' F' N'; (try k_sweep)))
local macro_rules | `(tactic| passes_own) => `(tactic| exact PassesOwn.leaving)
local macro_rules | `(tactic| walk_at "binaryOp Mod str int") => `(tactic| (k_here; (with_reducible show wpAny _ _ (binaryOp Operator.Mod (Value.str _ _) (Value.int _ _)) _ _ _); (refine mod_X (by k_extra "idx") (by k_extra "hexlen") (by k_extra "log") ?_); intro _ _))
local macro_rules | `(tactic| walk_at "call builtin:len") => `(tactic| (k_here; (with_reducible show wpAny _ _ (call (Value.builtin "len") [Value.str _ _]) _ _ _); (refine len_S (by k_extra "slen") ?_); intro _ _))
local macro_rules | `(tactic| walk_at "binaryOp Add str str") => `(tactic| (k_here; (with_reducible show wpAny _ _ (binaryOp Operator.Add (Value.str _ _) (Value.str _ _)) _ _ _); (refine add_S0 (by k_extra "slen") ?_); intro _ _))
local macro_rules | `(tactic| walk_at "binaryOp BitAnd int int") => `(tactic| (k_here; (refine and_at (by k_extra "and") ?_); intro _ _))
local macro_rules | `(tactic| walk_at "call type:int") => `(tactic| (k_here; (with_reducible show wpAny _ _ (call (Value.type "int") [Value.bytes (List.toArray _) _, Value.int _ _]) _ _ _); k_dflt (refine int16_L (by k_extra "size") (by k_extra "size") ?_); intro _ _))
local macro_rules | `(tactic| walk_at "call builtin:bytes.startswith") => `(tactic| (k_here; k_dflt (refine starts_at (by k_extra "starts") ?_); intro _))
local macro_rules | `(tactic| walk_at "call builtin:bytes.join") => `(tactic| (k_here; k_dflt (refine' join_L ?F ?N ?m ?T ?c ?d ?p ?z ?_; (case F => k_asm); (case N => k_asm); (case m => k_mem); (case c => exact rfl); (case T => first | exact .inl rfl | exact .inr rfl); (case d => exact rfl); (case p => k_extra "pieces"); (case z => k_extra "size")); intro _ _))
local macro_rules | `(tactic| walk_at "eval ListComp") => `(tactic| (k_here; lcg_look; (with_reducible show wpAny _ _ (eval (Expr.ListComp _ [⟨_, Expr.Name "encoded_pieces" _, _, _⟩] _ _) _) _ _ _); k_dflt (refine ListComp_T (F₀ := by k_asm) (by rfl) (by decide) (by rfl) (by decide) (by rfl) ?_)))
local macro_rules | `(tactic| walk_at "CompTup") => `(tactic| (k_here; k_dflt (refine CompTup.ledger (by rfl) (by k_asm) (by k_asm) (by k_mem) (by first | size_fits | exact Nat.le_of_ble_eq_true rfl) ?_); intro g'; lcg_lit))
local macro_rules | `(tactic| lcg_src) => `(tactic| exact ⟨_, by k_mem, rfl, _, rfl⟩)
local macro_rules | `(tactic| walk_at "CompEnd") => `(tactic| ((with_reducible rename Fr _ _ _ _ => F9); (with_reducible rename News _ _ _ _ => N9); (with_reducible rename LCg.Off3 _ _ _ _ ∧ _ => o9); refine ⟨_, _, _, rfl, F9, N9, o9, by lcg_src, ?_⟩))
local macro_rules | `(tactic| walk_at "CompEnd") => `(tactic| ((with_reducible rename Fr _ _ _ _ => F9); (with_reducible rename News _ _ _ _ => N9); (with_reducible rename _ ∧ LCg.Off3 _ _ _ _ => o9); refine ⟨_, _, _, rfl, F9, N9, o9, by lcg_src, ?_⟩))
local macro_rules | `(tactic| walk_at "UnrEnd") => `(tactic| ((with_reducible rename Fr _ _ _ _ => F9); (with_reducible rename News _ _ _ _ => N9); (with_reducible rename _ < _ ∧ AllLt _ _ => l9); refine' UnrEnd.intro F9 N9 _ (fun p hp => hp) ?off ?_; (case off => exact fun p hp => Nat.ne_of_lt (ktn_ltOf (by exact l9) p hp))))

def hexV (c : Int) : Int := if 48 ≤ c ∧ c ≤ 57 then c - 48 else if 65 ≤ c ∧ c ≤ 70 then c - 55 else if 97 ≤ c ∧ c ≤ 102 then c - 87 else 16
set_option maxRecDepth 100000 in
set_option maxHeartbeats 8000000 in
theorem con_hex (c : Int) (t : Tok) : Con 2 112 [.int c t] [] (fun t' => .int (hexV c) t') := by
  have hfill9 : Mine.hd.heap_39 = Mine.hd.heap_39 ∧ PySem.Challenge.rw_fe0233_01 = PySem.Challenge.rw_fe0233_01 := (by k_fill; exact ⟨rfl, rfl⟩)
  clear hfill9
  intro prog w mean mg mb dp un gd cn cs a ccd cl outer A₀ base h₀ L m news s Q E B F X N T hk hdp hun hret
  refine wpAny_call ?_
  k_dflt (refine' code_def ?k1 ?k2 ?k3 ?k4 ?k5 ?kA ?kF ?kK ?k6 ?k7 ?k8 ?k9 ?kB ?_ ?c2 ?c3 ?c4 ?c5; (case kA => exact rfl); (case kF => exact rfl); (case kK => assumption); (case k1 => k_asm); (case k2 => k_asm); (case k3 => k_asm); (case k4 => k_asm); (case k5 => k_asm); (case k6 => k_is); (case k7 => k_is); (case k8 => ktr_room); (case k9 => first | exact BindsTo.of_eq rfl | exact binds_K (by k_in) rfl (by k_is) rfl rfl rfl); (case c5 => decide); (case kB => exact locs rfl); (case c2 => exact rfl); (case c3 => exact rfl); (case c4 => exact rfl); k_whole; intro g' L' h' FG' F' N' B' X' T'; (try dsimp only); (try k_fold))
  k_steps
  all_goals
    refine cb_retI hret ?_ (by k_asm) (by k_asm)
    unfold hexV
    (repeat' split) <;> omega
set_option maxRecDepth 100000 in
set_option maxHeartbeats 8000000 in
theorem con_int2byte (n : Int) (t : Tok) (h0 : 0 ≤ n) (h1 : n < 256) : Con 2 56 [.int n t] [] (fun t' => .bytes [n.toNat.toUInt8].toArray t') := by
  have hfill9 : Mine.hd.heap_39 = Mine.hd.heap_39 ∧ PySem.Challenge.rw_fe0233_01 = PySem.Challenge.rw_fe0233_01 := (by k_fill; exact ⟨rfl, rfl⟩)
  clear hfill9
  intro prog w mean mg mb dp un gd cn cs a ccd cl outer A₀ base h₀ L m news s Q E B F X N T hk hdp hun hret
  refine wpAny_call ?_
  k_dflt (refine' code_def ?k1 ?k2 ?k3 ?k4 ?k5 ?kA ?kF ?kK ?k6 ?k7 ?k8 ?k9 ?kB ?_ ?c2 ?c3 ?c4 ?c5; (case kA => exact rfl); (case kF => exact rfl); (case kK => assumption); (case k1 => k_asm); (case k2 => k_asm); (case k3 => k_asm); (case k4 => k_asm); (case k5 => k_asm); (case k6 => k_is); (case k7 => k_is); (case k8 => ktr_room); (case k9 => first | exact BindsTo.of_eq rfl | exact binds_K (by k_in) rfl (by k_is) rfl rfl rfl); (case c5 => decide); (case kB => exact locs rfl); (case c2 => exact rfl); (case c3 => exact rfl); (case c4 => exact rfl); k_whole; intro g' L' h' FG' F' N' B' X' T'; (try dsimp only); (try k_fold))
  k_with "idx" => omega
  k_steps
  all_goals exact hret _ _ _ (by k_asm) (by k_asm)
set_option maxRecDepth 100000 in
set_option maxHeartbeats 8000000 in
theorem con_buffer (l : List UInt8) (t : Tok) : Con 2 96 [.bytes l.toArray t] [] (fun t' => .bytes l.toArray t') := by
  have hfill9 : Mine.hd.heap_39 = Mine.hd.heap_39 ∧ PySem.Challenge.rw_fe0233_01 = PySem.Challenge.rw_fe0233_01 := (by k_fill; exact ⟨rfl, rfl⟩)
  clear hfill9
  intro prog w mean mg mb dp un gd cn cs a ccd cl outer A₀ base h₀ L m news s Q E B F X N T hk hdp hun hret
  refine wpAny_call ?_
  k_dflt (refine' code_def ?k1 ?k2 ?k3 ?k4 ?k5 ?kA ?kF ?kK ?k6 ?k7 ?k8 ?k9 ?kB ?_ ?c2 ?c3 ?c4 ?c5; (case kA => exact rfl); (case kF => exact rfl); (case kK => assumption); (case k1 => k_asm); (case k2 => k_asm); (case k3 => k_asm); (case k4 => k_asm); (case k5 => k_asm); (case k6 => k_is); (case k7 => k_is); (case k8 => ktr_room); (case k9 => first | exact BindsTo.of_eq rfl | exact binds_K (by k_in) rfl (by k_is) rfl rfl rfl); (case c5 => decide); (case kB => exact locs rfl); (case c2 => exact rfl); (case c3 => exact rfl); (case c4 => exact rfl); k_whole; intro g' L' h' FG' F' N' B' X' T'; (try dsimp only); (try k_fold))
  k_steps
  all_goals exact hret _ _ _ (by k_asm) (by k_asm)
set_option maxRecDepth 100000 in
set_option maxHeartbeats 8000000 in
theorem con_abuf_bytes (l : List UInt8) (t : Tok) : Con 2 89 [.bytes l.toArray t] [] (fun t' => .bytes l.toArray t') := by
  have hfill9 : Mine.hd.heap_39 = Mine.hd.heap_39 ∧ PySem.Challenge.rw_fe0233_01 = PySem.Challenge.rw_fe0233_01 := (by k_fill; exact ⟨rfl, rfl⟩)
  clear hfill9
  intro prog w mean mg mb dp un gd cn cs a ccd cl outer A₀ base h₀ L m news s Q E B F X N T hk hdp hun hret
  refine wpAny_call ?_
  k_dflt (refine' code_def ?k1 ?k2 ?k3 ?k4 ?k5 ?kA ?kF ?kK ?k6 ?k7 ?k8 ?k9 ?kB ?_ ?c2 ?c3 ?c4 ?c5; (case kA => exact rfl); (case kF => exact rfl); (case kK => assumption); (case k1 => k_asm); (case k2 => k_asm); (case k3 => k_asm); (case k4 => k_asm); (case k5 => k_asm); (case k6 => k_is); (case k7 => k_is); (case k8 => ktr_room); (case k9 => first | exact BindsTo.of_eq rfl | exact binds_K (by k_in) rfl (by k_is) rfl rfl rfl); (case c5 => decide); (case kB => exact locs rfl); (case c2 => exact rfl); (case c3 => exact rfl); (case c4 => exact rfl); k_whole; intro g' L' h' FG' F' N' B' X' T'; (try dsimp only); (try k_fold))
  k_steps
  all_goals exact hret _ _ _ (by k_asm) (by k_asm)
set_option maxRecDepth 100000 in
set_option maxHeartbeats 8000000 in
theorem con_abuf_str (ds : List Nat) (t : Tok) (hd : ∀ x ∈ ds, x < 128) (hz : ds.length ≤ 100000) : Con 2 89 [.str ⟨ds.toArray⟩ t] [] (fun t' => .bytes (chB ds).toArray t') := by
  have hfill9 : Mine.hd.heap_39 = Mine.hd.heap_39 ∧ PySem.Challenge.rw_fe0233_01 = PySem.Challenge.rw_fe0233_01 := (by k_fill; exact ⟨rfl, rfl⟩)
  clear hfill9
  intro prog w mean mg mb dp un gd cn cs a ccd cl outer A₀ base h₀ L m news s Q E B F X N T hk hdp hun hret
  refine wpAny_call ?_
  k_dflt (refine' code_def ?k1 ?k2 ?k3 ?k4 ?k5 ?kA ?kF ?kK ?k6 ?k7 ?k8 ?k9 ?kB ?_ ?c2 ?c3 ?c4 ?c5; (case kA => exact rfl); (case kF => exact rfl); (case kK => assumption); (case k1 => k_asm); (case k2 => k_asm); (case k3 => k_asm); (case k4 => k_asm); (case k5 => k_asm); (case k6 => k_is); (case k7 => k_is); (case k8 => ktr_room); (case k9 => first | exact BindsTo.of_eq rfl | exact binds_K (by k_in) rfl (by k_is) rfl rfl rfl); (case c5 => decide); (case kB => exact locs rfl); (case c2 => exact rfl); (case c3 => exact rfl); (case c4 => exact rfl); k_whole; intro g' L' h' FG' F' N' B' X' T'; (try dsimp only); (try k_fold))
  k_with "ascii" => exact hd
  k_with "size" => first | assumption | (rw [sizeLine_eq]; omega)
  k_steps
  all_goals first | exact hret _ _ _ (by k_asm) (by k_asm) | (exfalso; have h9 : Txt.isascii ⟨ds.toArray⟩ = true := (by unfold Txt.isascii; simpa using hd); simp_all)
local macro_rules | `(tactic| walk_at "call ref") => `(tactic| (k_here; k_dflt (refine' ConN (con_buffer _ _) ?k1 ?k2 ?k3 ?k4 ?k5 ?kK ?kd ?ku ?_; (case k1 => k_asm); (case k2 => k_asm); (case k3 => k_asm); (case k4 => k_asm); (case k5 => k_asm); (case kK => first | exact rfl | assumption); (case kd => ktr_room); (case ku => ktr_units)); intro t' h' tk' F' N'; (try dsimp only); (try k_sweep)))
set_option maxRecDepth 100000 in
set_option maxHeartbeats 8000000 in
theorem con_b2a (l : List UInt8) (t : Tok) (hz : l.length ≤ 10000) : Con 4 105 [.bytes l.toArray t] [] (fun t' => .bytes (chB (hexOut l)).toArray t') := by
  have hfill9 : Mine.hd.heap_39 = Mine.hd.heap_39 ∧ PySem.Challenge.rw_fe0233_01 = PySem.Challenge.rw_fe0233_01 := (by k_fill; exact ⟨rfl, rfl⟩)
  clear hfill9
  intro prog w mean mg mb dp un gd cn cs a ccd cl outer A₀ base h₀ L m news s Q E B F X N T hk hdp hun hret
  refine wpAny_call ?_
  k_dflt (refine' code_def ?k1 ?k2 ?k3 ?k4 ?k5 ?kA ?kF ?kK ?k6 ?k7 ?k8 ?k9 ?kB ?_ ?c2 ?c3 ?c4 ?c5; (case kA => exact rfl); (case kF => exact rfl); (case kK => assumption); (case k1 => k_asm); (case k2 => k_asm); (case k3 => k_asm); (case k4 => k_asm); (case k5 => k_asm); (case k6 => k_is); (case k7 => k_is); (case k8 => ktr_room); (case k9 => first | exact BindsTo.of_eq rfl | exact binds_K (by k_in) rfl (by k_is) rfl rfl rfl); (case c5 => decide); (case kB => exact locs rfl); (case c2 => exact rfl); (case c3 => exact rfl); (case c4 => exact rfl); k_whole; intro g' L' h' FG' F' N' B' X' T'; (try dsimp only); (try k_fold))
  k_with "size" => first | assumption | omega | (rw [sizeLine_eq, hexOut_length]; omega)
  k_with "ascii" => (intro x hx; have h9 := hexOut_all l x hx; unfold IsHex at h9; omega)
  k_steps
  all_goals exact hret _ _ _ (by k_asm) (by k_asm)
end Mine
end

noncomputable section
open PySem PySem.W PyProof.Rows
namespace Mine
theorem freshW2 : True := by
  k_with_none
  w_top off
  trivial
local macro_rules | `(tactic| walk_at "subscriptTail") => `(tactic| (k_here; (with_reducible show wpAny _ _ (subscriptTail _ _ (Value.bytes (List.toArray _) _) (Value.int _ _)) _ _ _); (refine item_L (by k_extra "size") (by k_extra "idx") (by k_extra "idx") ?_); intro _ _))
local macro_rules | `(tactic| walk_at "subscriptTail") => `(tactic| (k_here; (with_reducible show wpAny _ _ (subscriptTail _ (Expr.Slice _ _ none _) (Value.bytes (List.toArray _) _) (Value.ref _)) _ _ _); (with_reducible rename Fr _ _ _ _ => F9); (with_reducible rename News _ _ _ _ => N9); (first
  | refine slice_to (s := ⟨_, _, _, _, _⟩) F9 N9 (by k_extra "idx") (by k_extra "size") ?_
  | refine slice_from (s := ⟨_, _, _, _, _⟩) F9 N9 (by k_extra "idx") (by k_extra "size") ?_
  | refine slice_mid (s := ⟨_, _, _, _, _⟩) F9 N9 (by k_extra "idx") (by k_extra "idx") (by k_extra "size") ?_); intro h' t' tk' F' N'; (try k_extra "cut"); (try k_sweep)))
local macro_rules | `(tactic| walk_at "binaryOp Add bytes bytes") => `(tactic| (k_here; (with_reducible show wpAny _ _ (binaryOp Operator.Add (Value.bytes (List.toArray _) _) (Value.bytes (List.toArray _) _)) _ _ _); (refine add_L (by k_extra "size") ?_); intro _ _))
local macro_rules | `(tactic| walk_at "call builtin:len") => `(tactic| (k_here; (with_reducible show wpAny _ _ (call (Value.builtin "len") [Value.bytes (List.toArray _) _]) _ _ _); (refine len_L (by k_extra "size") ?_); intro _ _))
local macro_rules | `(tactic| walk_at "call builtin:ord") => `(tactic| (k_here; (with_reducible show wpAny _ _ (call (Value.builtin "ord") [Value.bytes (List.toArray _) _]) _ _ _); (refine ord_L ?_ (by k_extra "one")); intro _ _))
local macro_rules | `(tactic| walk_at "compareOp NotEq bytes bytes") => `(tactic| (k_here; (with_reducible refine ne_L ?_)))
local macro_rules | `(tactic| walk_at "compareOp Eq bytes bytes") => `(tactic| (k_here; (with_reducible refine eq_L ?_)))
local macro_rules | `(tactic| walk_at "getMethod str") => `(tactic| (k_here; with_reducible refine meth_encode ?_))
local macro_rules | `(tactic| walk_at "getMethod bytes") => `(tactic| (k_here; with_reducible refine meth_hex ?_))
local macro_rules | `(tactic| walk_at "getMethod bytes") => `(tactic| (k_here; with_reducible refine meth_starts ?_))
local macro_rules | `(tactic| walk_at "getMethod bytes") => `(tactic| (k_here; with_reducible refine meth_join ?_))
local macro_rules | `(tactic| walk_at "call builtin:str.encode") => `(tactic| (k_here; (first | refine call_encode8 (by k_extra "ascii") (by k_extra "size") ?_ | refine call_encodeA (by k_extra "ascii") (by k_extra "size") ?_); intro _ _))
local macro_rules | `(tactic| walk_at "call builtin:bytes.hex") => `(tactic| (k_here; (refine call_hex (by k_extra "size") ?_); intro _ _))
local macro_rules | `(tactic| walk_at "call builtin:bytes.startswith") => `(tactic| (k_here; k_dflt (refine call_starts ?_); intro _))
local macro_rules | `(tactic| walk_at "call builtin:_struct.pack") => `(tactic| (k_here; (refine call_pack (by k_extra "idx") (by k_extra "idx") ?_); intro _ _))
local macro_rules | `(tactic| walk_at "call type:type") => `(tactic| (k_here; k_dflt (first | refine call_type_of (typeIs_bytes _ _ _) (by decide +kernel) ?_ | refine call_type_of (typeIs_str _ _ _) (by decide +kernel) ?_ | refine call_type_of (typeIs_int _ _ _) (by decide +kernel) ?_)))
local macro_rules | `(tactic| walk_at "compareOp Is") => `(tactic| (k_here; (with_reducible show wpAny _ _ (compareOp CmpOp.Is (Value.type _) (Value.type _)) _ _ _); (first | refine wpAny_is_self (by rfl) ?_ | refine wpAny_is_other (by rfl) (by decide) ?_)))
local macro_rules | `(tactic| walk_at "compareOp IsNot") => `(tactic| (k_here; (with_reducible show wpAny _ _ (compareOp CmpOp.IsNot (Value.type _) (Value.type _)) _ _ _); (first | refine wpAny_isNot_self (by rfl) ?_ | refine wpAny_isNot_other (by rfl) (by decide) ?_)))
local macro_rules | `(tactic| walk_at "call type:bytes") => `(tactic| (k_here; (with_reducible show wpAny _ _ (call (Value.type "bytes") [Value.ref _]) _ _ _); k_dflt (refine' make_L ?F ?N ?h ?l ?i ?r ?n ?_; (case F => k_asm); (case N => k_asm); (case h => rfl); (case l => kba_isList); (case i => kba_listInts); (case r => k_extra "in"); (case n => k_extra "size")); intro h' t' tk' F' N'; (try k_sweep)))
local macro_rules | `(tactic| passes_own) => `(tactic| exact PassesOwn.leaving)
local macro_rules | `(tactic| walk_at "binaryOp Mod str int") => `(tactic| (k_here; (with_reducible show wpAny _ _ (binaryOp Operator.Mod (Value.str _ _) (Value.int _ _)) _ _ _); (refine mod_X (by k_extra "idx") (by k_extra "hexlen") (by k_extra "log") ?_); intro _ _))
local macro_rules | `(tactic| walk_at "call builtin:len") => `(tactic| (k_here; (with_reducible show wpAny _ _ (call (Value.builtin "len") [Value.str _ _]) _ _ _); (refine len_S (by k_extra "slen") ?_); intro _ _))
local macro_rules | `(tactic| walk_at "binaryOp Add str str") => `(tactic| (k_here; (with_reducible show wpAny _ _ (binaryOp Operator.Add (Value.str _ _) (Value.str _ _)) _ _ _); (refine add_S0 (by k_extra "slen") ?_); intro _ _))
local macro_rules | `(tactic| walk_at "binaryOp BitAnd int int") => `(tactic| (k_here; (refine and_at (by k_extra "and") ?_); intro _ _))
local macro_rules | `(tactic| walk_at "call type:int") => `(tactic| (k_here; (with_reducible show wpAny _ _ (call (Value.type "int") [Value.bytes (List.toArray _) _, Value.int _ _]) _ _ _); k_dflt (refine int16_L (by k_extra "size") (by k_extra "size") ?_); intro _ _))
local macro_rules | `(tactic| walk_at "call builtin:bytes.startswith") => `(tactic| (k_here; k_dflt (refine starts_at (by k_extra "starts") ?_); intro _))
local macro_rules | `(tactic| walk_at "call builtin:bytes.join") => `(tactic| (k_here; k_dflt (refine' join_L ?F ?N ?m ?T ?c ?d ?p ?z ?_; (case F => k_asm); (case N => k_asm); (case m => k_mem); (case c => exact rfl); (case T => first | exact .inl rfl | exact .inr rfl); (case d => exact rfl); (case p => k_extra "pieces"); (case z => k_extra "size")); intro _ _))
local macro_rules | `(tactic| walk_at "eval ListComp") => `(tactic| (k_here; lcg_look; (with_reducible show wpAny _ _ (eval (Expr.ListComp _ [⟨_, Expr.Name "encoded_pieces" _, _, _⟩] _ _) _) _ _ _); k_dflt (refine ListComp_T (F₀ := by k_asm) (by rfl) (by decide) (by rfl) (by decide) (by rfl) ?_)))
local macro_rules | `(tactic| walk_at "CompTup") => `(tactic| (k_here; k_dflt (refine CompTup.ledger (by rfl) (by k_asm) (by k_asm) (by k_mem) (by first | size_fits | exact Nat.le_of_ble_eq_true rfl) ?_); intro g'; lcg_lit))
local macro_rules | `(tactic| lcg_src) => `(tactic| exact ⟨_, by k_mem, rfl, _, rfl⟩)
local macro_rules | `(tactic| walk_at "CompEnd") => `(tactic| ((with_reducible rename Fr _ _ _ _ => F9); (with_reducible rename News _ _ _ _ => N9); (with_reducible rename LCg.Off3 _ _ _ _ ∧ _ => o9); refine ⟨_, _, _, rfl, F9, N9, o9, by lcg_src, ?_⟩))
local macro_rules | `(tactic| walk_at "CompEnd") => `(tactic| ((with_reducible rename Fr _ _ _ _ => F9); (with_reducible rename News _ _ _ _ => N9); (with_reducible rename _ ∧ LCg.Off3 _ _ _ _ => o9); refine ⟨_, _, _, rfl, F9, N9, o9, by lcg_src, ?_⟩))
local macro_rules | `(tactic| walk_at "UnrEnd") => `(tactic| ((with_reducible rename Fr _ _ _ _ => F9); (with_reducible rename News _ _ _ _ => N9); (with_reducible rename _ < _ ∧ AllLt _ _ => l9); refine' UnrEnd.intro F9 N9 _ (fun p hp => hp) ?off ?_; (case off => exact fun p hp => Nat.ne_of_lt (ktn_ltOf (by exact l9) p hp))))

def Stop (P : Prop) : Prop := P
theorem unstop {P : Prop} (h : Stop P) : P := h
theorem hexV_hv {c : Nat} (h : IsHex c) : hexV (c : Int) = (hv c : Nat) := by
  unfold hexV hv; unfold IsHex at h
  rcases h with h | h
  · rw [if_pos (by omega), if_pos (by omega)]; omega
  · rw [if_neg (by omega), if_neg (by omega), if_pos (by omega), if_neg (by omega)]; omega
theorem con_hexN (c : Nat) (t : Tok) (h : IsHex c) : Con 2 112 [.int c t] [] (fun t' => .int (hv c : Nat) t') := by
  have := con_hex c t
  rw [hexV_hv h] at this
  exact this
def cAt (l : List UInt8) (i : Nat) : Nat := (l.getD i 0).toNat
def pairI (l : List UInt8) (k : Nat) : Int := (hv (cAt l (2 * k)) : Int) * 16 + hv (cAt l (2 * k + 1))
def outI (l : List UInt8) (k : Nat) : List Int := (List.range k).map (pairI l)
def unhexB (l : List UInt8) : List UInt8 := toB (outI l (l.length / 2))
theorem cAt_hex {l : List UInt8} (hl : AllHex (l.map (·.toNat))) {i : Nat} (h : i < l.length) : IsHex (cAt l i) := by
  refine hl _ ?_
  unfold cAt
  rw [List.getD_eq_getElem?_getD, List.getElem?_eq_getElem h]
  exact List.mem_map.mpr ⟨_, List.getElem_mem h, rfl⟩
abbrev whLed (x : Addr) (news : List (Addr × Obj)) (c : Nat × List Value × List Int × Nat × Tok) : List (Addr × Obj) := (x, W.listOf c.2.1.toArray c.2.2.2.1) :: news
abbrev whPs (x : Addr) (c : Nat × List Value × List Int × Nat × Tok) : List (Str × Value) := [(Str.ofString "i", .int (2 * (c.1 : Int)) c.2.2.2.2), (Str.ofString "out", .ref x)]
theorem wh_unhex {prog : Program} {w : World} {A : Around} {E : Value → Shared → Prop} {Q : Flow → Shared → Prop} {s : Shared} {env : Env} {h₀ : Heap} {L : Addr} {test : Expr} {body : List Stmt} {pos : Pos} {m₀ : Str → Option Value} {news : List (Addr × Obj)} {x : Addr} {t0 : Tok}
    (l : List UInt8) (F : Fr h₀ L s.heap m₀) (N : News h₀ L s.heap ((x, W.listOf #[] 0) :: news)) (hi : m₀ (Str.ofString "i") = some (.int 0 t0)) (ho : m₀ (Str.ofString "out") = some (.ref x))
    (turn : ∀ (k : Nat) (vs : List Value) (n : Nat) (tok : Tok) (u : Str → Option Value) h tk, IntsAre vs (outI l k) → 2 * k ≤ l.length → Fr h₀ L h (kstB (fun z => if ([Str.ofString "top", Str.ofString "bot"] : List Str).contains z then u z else m₀ z) [(Str.ofString "i", .int (2 * (k : Int)) tok), (Str.ofString "out", .ref x)]) → News h₀ L h ((x, W.listOf vs.toArray n) :: news) →
      wpAny (model prog w) A (isTrue test env (eval test env)) (fun b s₂ =>
        if b = true then wpAny (model prog w) A (execs body env) (KswPost h₀ L s (whLed x news) (whPs x) (fun c => IntsAre c.2.1 c.2.2.1) [Str.ofString "top", Str.ofString "bot"] m₀ (fun c => 2 * c.1 ≤ l.length ∧ c.2.2.1 = outI l c.1) (fun c => l.length - 2 * c.1) Q (k, vs, outI l k, n, tok)) E s₂ else Q .next s₂) E { s with heap := h, toks := tk })
    (hE : PassesOwn (model prog w) A env E) :
    wpAny (model prog w) A (exec (.While test body [] pos) env) Q E s := by
  refine ksw_while (σ := Nat × List Value × List Int × Nat × Tok) (whLed x news) (whPs x) (fun c => IntsAre c.2.1 c.2.2.1) [Str.ofString "top", Str.ofString "bot"] (fun c => 2 * c.1 ≤ l.length ∧ c.2.2.1 = outI l c.1) (fun c => l.length - 2 * c.1) (0, [], [], 0, t0) F N ?kf ?kk ?kp ?kt hE
  case kf => exact .nil
  case kk =>
    intro p hp
    rcases List.mem_cons.mp hp with rfl | hp
    · exact hi
    · rcases List.mem_cons.mp hp with rfl | hp
      · exact ho
      · cases hp
  case kp => exact ⟨Nat.zero_le _, rfl⟩
  case kt =>
    rintro ⟨k, vs, ns, n, tok⟩ u h tk hf hp F1 N1
    obtain ⟨hp1, hns⟩ := hp
    have hns : ns = outI l k := hns
    subst hns
    exact turn k vs n tok u h tk hf hp1 F1 N1
theorem ints_snoc {vs : List Value} {ns : List Int} {n : Int} {t : Tok} (h : IntsAre vs ns) : IntsAre (vs ++ [.int n t]) (ns ++ [n]) := by
  induction h with
  | nil => exact .cons _ _ .nil
  | cons _ _ _ ih => exact .cons _ _ ih
theorem outI_in {l : List UInt8} (hl : AllHex (l.map (·.toNat))) {k : Nat} (hk : 2 * k ≤ l.length) : ∀ n ∈ outI l k, 0 ≤ n ∧ n < 256 := by
  intro n hn
  obtain ⟨j, hj, rfl⟩ := List.mem_map.mp hn
  have hj := List.mem_range.mp hj
  have h1 := hv_lt (cAt_hex hl (i := 2 * j) (by omega))
  have h2 := hv_lt (cAt_hex hl (i := 2 * j + 1) (by omega))
  unfold pairI
  omega
theorem outI_length (l : List UInt8) (k : Nat) : (outI l k).length = k := by simp [outI]
theorem outI_succ (l : List UInt8) (k : Nat) : outI l (k + 1) = outI l k ++ [pairI l k] := by simp [outI, List.range_succ]
local macro_rules | `(tactic| walk_at "call ref") => `(tactic| (k_here; k_dflt (refine' ConN ?hC ?k1 ?k2 ?k3 ?k4 ?k5 ?kK ?kd ?ku ?_; (case hC => assumption); (case k1 => k_asm); (case k2 => k_asm); (case k3 => k_asm); (case k4 => k_asm); (case k5 => k_asm); (case kK => first | exact rfl | assumption); (case kd => ktr_room); (case ku => ktr_units)); intro t' h' tk' F' N'; (try dsimp only); (try k_sweep)))
local macro_rules | `(tactic| walk_at "call ref") => `(tactic| (k_here; k_dflt (refine' ConN (con_hexN _ _ (by k_extra "hex")) ?k1 ?k2 ?k3 ?k4 ?k5 ?kK ?kd ?ku ?_; (case k1 => k_asm); (case k2 => k_asm); (case k3 => k_asm); (case k4 => k_asm); (case k5 => k_asm); (case kK => first | exact rfl | assumption); (case kd => ktr_room); (case ku => ktr_units)); intro t' h' tk' F' N'; (try dsimp only); (try k_sweep); k_extra "after"))
local macro_rules | `(tactic| walk_at "exec While Compare cons nil") => `(tactic| refine unstop ?_)
local macro_rules | `(tactic| walk_at "KswEnd") => `(tactic| refine unstop ?_)
set_option maxRecDepth 100000 in
set_option maxHeartbeats 8000000 in
theorem con_a2b (l : List UInt8) (v : Value) (hb : Con 2 89 [v] [] (fun t' => .bytes l.toArray t')) (hl : AllHex (l.map (·.toNat))) (he : l.length % 2 = 0) (hz : l.length ≤ 10000) : Con 4 119 [v] [] (fun t' => .bytes (unhexB l).toArray t') := by
  have hfill9 : Mine.hd.heap_39 = Mine.hd.heap_39 ∧ PySem.Challenge.rw_fe0233_01 = PySem.Challenge.rw_fe0233_01 := (by k_fill; exact ⟨rfl, rfl⟩)
  clear hfill9
  intro prog w mean mg mb dp un gd cn cs a ccd cl outer A₀ base h₀ L m news s Q E B F X N T hk hdp hun hret
  refine wpAny_call ?_
  k_dflt (refine' code_def ?k1 ?k2 ?k3 ?k4 ?k5 ?kA ?kF ?kK ?k6 ?k7 ?k8 ?k9 ?kB ?_ ?c2 ?c3 ?c4 ?c5; (case kA => exact rfl); (case kF => exact rfl); (case kK => assumption); (case k1 => k_asm); (case k2 => k_asm); (case k3 => k_asm); (case k4 => k_asm); (case k5 => k_asm); (case k6 => k_is); (case k7 => k_is); (case k8 => ktr_room); (case k9 => first | exact BindsTo.of_eq rfl | exact binds_K (by k_in) rfl (by k_is) rfl rfl rfl); (case c5 => decide); (case kB => exact locs rfl); (case c2 => exact rfl); (case c3 => exact rfl); (case c4 => exact rfl); k_whole; intro g' L' h' FG' F' N' B' X' T'; (try dsimp only); (try k_fold))
  k_with "size" => first | assumption | omega
  k_with "state" => exact ⟨0, rfl, Nat.zero_le _, rfl⟩
  k_steps
  rotate_left
  · unfold Stop
    rename Fr _ _ _ _ => lF
    rename News _ _ _ _ => lN
    refine wh_unhex l lF lN rfl rfl ?_ PassesOwn.leaving
    clear lF lN
    intro k vs n tok u h tk hf hp F1 N1
    k_with "hex" => exact cAt_hex hl (by omega)
    k_with "after" => ((have h9 := hv_lt (cAt_hex hl (i := (2 * (k : Int)).toNat) (by omega))); (have h10 := hv_lt (cAt_hex hl (i := (2 * (k : Int) + 1).toNat) (by omega))); (change hv ((l.getD _ 0).toNat) < 16 at h9); (change hv ((l.getD _ 0).toNat) < 16 at h10))
    k_with "in" => exact outI_in hl hp
    k_with "size" => first | assumption | (rw [outI_length]; omega) | omega
    k_with "idx" => omega
    k_fold
    have hvl : vs.length = k := by rw [hf.length, outI_length]
    have hvl2 : vs.length ≤ 5000 := by omega
    k_steps
    · unfold Stop
      rename News _ _ _ _ => nE
      simp only [List.push_toArray] at nE
      have hpair : (hv (l.getD (2 * (k : Int)).toNat 0).toNat : Int) * 2 ^ Int.toNat 4 + (hv (l.getD (2 * (k : Int) + 1).toNat 0).toNat : Int) = pairI l k := by
        have e1 : (2 * (k : Int)).toNat = 2 * k := by omega
        have e2 : (2 * (k : Int) + 1).toNat = 2 * k + 1 := by omega
        have e3 : ((2 : Int) ^ Int.toNat 4) = 16 := by decide
        rw [e1, e2, e3]
        rfl
      rw [hpair] at nE
      refine' ksw_end (k + 1, _, outI l (k + 1), _, _) (by assumption) nE (fun _ hq => hq) ?hf ?hk ?hr ?hp ?hm
      case hf =>
        rw [outI_succ]
        exact ints_snoc hf
      case hk =>
        intro p hp
        rcases List.mem_cons.mp hp with rfl | hp
        · show some (Value.int (2 * (k : Int) + 2) _) = some (Value.int (2 * ((k + 1 : Nat) : Int)) _)
          rw [show (2 * (k : Int) + 2) = 2 * ((k + 1 : Nat) : Int) by omega]
        · rcases List.mem_cons.mp hp with rfl | hp
          · rfl
          · cases hp
      case hr =>
        intro z h2 h3
        have ha : z ≠ Str.ofString "i" := h2 _ (.head _)
        have hb : z ≠ Str.ofString "out" := h2 _ (.tail _ (.head _))
        simp only [List.contains_cons, List.contains_nil, Bool.or_false, Bool.or_eq_false_iff, beq_eq_false_iff_ne, ne_eq] at h3
        simp [kstB, ha, hb, h3.1, h3.2]
      case hp => exact ⟨by show 2 * (k + 1) ≤ l.length; omega, rfl⟩
      case hm =>
        show l.length - 2 * (k + 1) < l.length - 2 * k
        omega
    · have hke : k = l.length / 2 := by omega
      subst hke
      exact hret _ _ _ (by k_asm) (by first | k_asm | exact cb_drop (by k_asm) (by kcj_all))
  all_goals (exfalso; rename _ ≠ _ => hne; exact hne (by rw [Int.fmod_eq_emod_of_nonneg _ (by decide)]; omega))
theorem con_a2b_bytes (l : List UInt8) (t : Tok) (hl : AllHex (l.map (·.toNat))) (he : l.length % 2 = 0) (hz : l.length ≤ 10000) : Con 4 119 [.bytes l.toArray t] [] (fun t' => .bytes (unhexB l).toArray t') :=
  con_a2b l _ (con_abuf_bytes l t) hl he hz
theorem hex_lt {ds : List Nat} (h : AllHex ds) : ∀ x ∈ ds, x < 128 := fun x hx => by
  have := h x hx
  unfold IsHex at this
  omega
theorem chB_nat {ds : List Nat} (h : ∀ x ∈ ds, x < 128) : (chB ds).map (·.toNat) = ds := by
  unfold chB
  rw [List.map_map]
  refine (List.map_congr_left (g := _root_.id) fun x hx => ?_).trans (List.map_id _)
  have := h x hx
  show (x.toUInt8).toNat = x
  show x % 256 = x
  omega
theorem con_a2b_str (ds : List Nat) (t : Tok) (hl : AllHex ds) (he : ds.length % 2 = 0) (hz : ds.length ≤ 10000) : Con 4 119 [.str ⟨ds.toArray⟩ t] [] (fun t' => .bytes (unhexB (chB ds)).toArray t') :=
  con_a2b (chB ds) _ (con_abuf_str ds t (hex_lt hl) (by omega)) (by rw [chB_nat (hex_lt hl)]; exact hl) (by rw [chB_length]; exact he) (by rw [chB_length]; exact hz)
end Mine
end

noncomputable section
open PySem PySem.W PyProof.Rows
namespace Mine
theorem freshW3 : True := by
  k_with_none
  w_top off
  trivial
local macro_rules | `(tactic| walk_at "subscriptTail") => `(tactic| (k_here; (with_reducible show wpAny _ _ (subscriptTail _ _ (Value.bytes (List.toArray _) _) (Value.int _ _)) _ _ _); (refine item_L (by k_extra "size") (by k_extra "idx") (by k_extra "idx") ?_); intro _ _))
local macro_rules | `(tactic| walk_at "subscriptTail") => `(tactic| (k_here; (with_reducible show wpAny _ _ (subscriptTail _ (Expr.Slice _ _ none _) (Value.bytes (List.toArray _) _) (Value.ref _)) _ _ _); (with_reducible rename Fr _ _ _ _ => F9); (with_reducible rename News _ _ _ _ => N9); (first
  | refine slice_to (s := ⟨_, _, _, _, _⟩) F9 N9 (by k_extra "idx") (by k_extra "size") ?_
  | refine slice_from (s := ⟨_, _, _, _, _⟩) F9 N9 (by k_extra "idx") (by k_extra "size") ?_
  | refine slice_mid (s := ⟨_, _, _, _, _⟩) F9 N9 (by k_extra "idx") (by k_extra "idx") (by k_extra "size") ?_); intro h' t' tk' F' N'; (try k_extra "cut"); (try k_sweep)))
local macro_rules | `(tactic| walk_at "binaryOp Add bytes bytes") => `(tactic| (k_here; (with_reducible show wpAny _ _ (binaryOp Operator.Add (Value.bytes (List.toArray _) _) (Value.bytes (List.toArray _) _)) _ _ _); (refine add_L (by k_extra "size") ?_); intro _ _))
local macro_rules | `(tactic| walk_at "call builtin:len") => `(tactic| (k_here; (with_reducible show wpAny _ _ (call (Value.builtin "len") [Value.bytes (List.toArray _) _]) _ _ _); (refine len_L (by k_extra "size") ?_); intro _ _))
local macro_rules | `(tactic| walk_at "call builtin:ord") => `(tactic| (k_here; (with_reducible show wpAny _ _ (call (Value.builtin "ord") [Value.bytes (List.toArray _) _]) _ _ _); (refine ord_L ?_ (by k_extra "one")); intro _ _))
local macro_rules | `(tactic| walk_at "compareOp NotEq bytes bytes") => `(tactic| (k_here; (with_reducible refine ne_L ?_)))
local macro_rules | `(tactic| walk_at "compareOp Eq bytes bytes") => `(tactic| (k_here; (with_reducible refine eq_L ?_)))
local macro_rules | `(tactic| walk_at "getMethod str") => `(tactic| (k_here; with_reducible refine meth_encode ?_))
local macro_rules | `(tactic| walk_at "getMethod bytes") => `(tactic| (k_here; with_reducible refine meth_hex ?_))
local macro_rules | `(tactic| walk_at "getMethod bytes") => `(tactic| (k_here; with_reducible refine meth_starts ?_))
local macro_rules | `(tactic| walk_at "getMethod bytes") => `(tactic| (k_here; with_reducible refine meth_join ?_))
local macro_rules | `(tactic| walk_at "call builtin:str.encode") => `(tactic| (k_here; (first | refine call_encode8 (by k_extra "ascii") (by k_extra "size") ?_ | refine call_encodeA (by k_extra "ascii") (by k_extra "size") ?_); intro _ _))
local macro_rules | `(tactic| walk_at "call builtin:bytes.hex") => `(tactic| (k_here; (refine call_hex (by k_extra "size") ?_); intro _ _))
local macro_rules | `(tactic| walk_at "call builtin:bytes.startswith") => `(tactic| (k_here; k_dflt (refine call_starts ?_); intro _))
local macro_rules | `(tactic| walk_at "call builtin:_struct.pack") => `(tactic| (k_here; (refine call_pack (by k_extra "idx") (by k_extra "idx") ?_); intro _ _))
local macro_rules | `(tactic| walk_at "call type:type") => `(tactic| (k_here; k_dflt (first | refine call_type_of (typeIs_bytes _ _ _) (by decide +kernel) ?_ | refine call_type_of (typeIs_str _ _ _) (by decide +kernel) ?_ | refine call_type_of (typeIs_int _ _ _) (by decide +kernel) ?_)))
local macro_rules | `(tactic| walk_at "compareOp Is") => `(tactic| (k_here; (with_reducible show wpAny _ _ (compareOp CmpOp.Is (Value.type _) (Value.type _)) _ _ _); (first | refine wpAny_is_self (by rfl) ?_ | refine wpAny_is_other (by rfl) (by decide) ?_)))
local macro_rules | `(tactic| walk_at "compareOp IsNot") => `(tactic| (k_here; (with_reducible show wpAny _ _ (compareOp CmpOp.IsNot (Value.type _) (Value.type _)) _ _ _); (first | refine wpAny_isNot_self (by rfl) ?_ | refine wpAny_isNot_other (by rfl) (by decide) ?_)))
local macro_rules | `(tactic| walk_at "call type:bytes") => `(tactic| (k_here; (with_reducible show wpAny _ _ (call (Value.type "bytes") [Value.ref _]) _ _ _); k_dflt (refine' make_L ?F ?N ?h ?l ?i ?r ?n ?_; (case F => k_asm); (case N => k_asm); (case h => rfl); (case l => kba_isList); (case i => kba_listInts); (case r => k_extra "in"); (case n => k_extra "size")); intro h' t' tk' F' N'; (try k_sweep)))
local macro_rules | `(tactic| passes_own) => `(tactic| exact PassesOwn.leaving)
local macro_rules | `(tactic| walk_at "binaryOp Mod str int") => `(tactic| (k_here; (with_reducible show wpAny _ _ (binaryOp Operator.Mod (Value.str _ _) (Value.int _ _)) _ _ _); (refine mod_X (by k_extra "idx") (by k_extra "hexlen") (by k_extra "log") ?_); intro _ _))
local macro_rules | `(tactic| walk_at "call builtin:len") => `(tactic| (k_here; (with_reducible show wpAny _ _ (call (Value.builtin "len") [Value.str _ _]) _ _ _); (refine len_S (by k_extra "slen") ?_); intro _ _))
local macro_rules | `(tactic| walk_at "binaryOp Add str str") => `(tactic| (k_here; (with_reducible show wpAny _ _ (binaryOp Operator.Add (Value.str _ _) (Value.str _ _)) _ _ _); (refine add_S0 (by k_extra "slen") ?_); intro _ _))
local macro_rules | `(tactic| walk_at "binaryOp BitAnd int int") => `(tactic| (k_here; (refine and_at (by k_extra "and") ?_); intro _ _))
local macro_rules | `(tactic| walk_at "call type:int") => `(tactic| (k_here; (with_reducible show wpAny _ _ (call (Value.type "int") [Value.bytes (List.toArray _) _, Value.int _ _]) _ _ _); k_dflt (refine int16_L (by k_extra "size") (by k_extra "size") ?_); intro _ _))
local macro_rules | `(tactic| walk_at "call builtin:bytes.startswith") => `(tactic| (k_here; k_dflt (refine starts_at (by k_extra "starts") ?_); intro _))
local macro_rules | `(tactic| walk_at "call builtin:bytes.join") => `(tactic| (k_here; k_dflt (refine' join_L ?F ?N ?m ?T ?c ?d ?p ?z ?_; (case F => k_asm); (case N => k_asm); (case m => k_mem); (case c => exact rfl); (case T => first | exact .inl rfl | exact .inr rfl); (case d => exact rfl); (case p => k_extra "pieces"); (case z => k_extra "size")); intro _ _))
local macro_rules | `(tactic| walk_at "eval ListComp") => `(tactic| (k_here; lcg_look; (with_reducible show wpAny _ _ (eval (Expr.ListComp _ [⟨_, Expr.Name "encoded_pieces" _, _, _⟩] _ _) _) _ _ _); k_dflt (refine ListComp_T (F₀ := by k_asm) (by rfl) (by decide) (by rfl) (by decide) (by rfl) ?_)))
local macro_rules | `(tactic| walk_at "CompTup") => `(tactic| (k_here; k_dflt (refine CompTup.ledger (by rfl) (by k_asm) (by k_asm) (by k_mem) (by first | size_fits | exact Nat.le_of_ble_eq_true rfl) ?_); intro g'; lcg_lit))
local macro_rules | `(tactic| lcg_src) => `(tactic| exact ⟨_, by k_mem, rfl, _, rfl⟩)
local macro_rules | `(tactic| walk_at "CompEnd") => `(tactic| ((with_reducible rename Fr _ _ _ _ => F9); (with_reducible rename News _ _ _ _ => N9); (with_reducible rename LCg.Off3 _ _ _ _ ∧ _ => o9); refine ⟨_, _, _, rfl, F9, N9, o9, by lcg_src, ?_⟩))
local macro_rules | `(tactic| walk_at "CompEnd") => `(tactic| ((with_reducible rename Fr _ _ _ _ => F9); (with_reducible rename News _ _ _ _ => N9); (with_reducible rename _ ∧ LCg.Off3 _ _ _ _ => o9); refine ⟨_, _, _, rfl, F9, N9, o9, by lcg_src, ?_⟩))
local macro_rules | `(tactic| walk_at "UnrEnd") => `(tactic| ((with_reducible rename Fr _ _ _ _ => F9); (with_reducible rename News _ _ _ _ => N9); (with_reducible rename _ < _ ∧ AllLt _ _ => l9); refine' UnrEnd.intro F9 N9 _ (fun p hp => hp) ?off ?_; (case off => exact fun p hp => Nat.ne_of_lt (ktn_ltOf (by exact l9) p hp))))

theorem pairI_succ (a b : UInt8) (r : List UInt8) (j : Nat) : pairI (a :: b :: r) (j + 1) = pairI r j := by
  have e1 : 2 * (j + 1) = 2 * j + 1 + 1 := by omega
  unfold pairI cAt
  rw [e1]
  rfl
theorem unhexB_cons (a b : UInt8) (r : List UInt8) : unhexB (a :: b :: r) = (hv a.toNat * 16 + hv b.toNat).toUInt8 :: unhexB r := by
  have e : (a :: b :: r).length / 2 = r.length / 2 + 1 := by simp only [List.length_cons]; omega
  unfold unhexB outI toB
  rw [e, List.range_succ_eq_map, List.map_cons, List.map_cons, List.map_map (g := pairI _)]
  have e2 : List.map (pairI (a :: b :: r) ∘ Nat.succ) (List.range (r.length / 2)) = List.map (pairI r) (List.range (r.length / 2)) := List.map_congr_left fun j _ => pairI_succ a b r j
  rw [e2]
  exact congrArg (· :: _) (toB_int _ _)
theorem unhexB_pair : ∀ (ds : List Nat), (∀ x ∈ ds, x < 256) → unhexB (chB ds) = pairB ds
  | [], _ => rfl
  | [_], _ => by simp [chB, unhexB, outI, toB, pairB]
  | a :: b :: r, h => by
    show unhexB (a.toUInt8 :: b.toUInt8 :: chB r) = _
    rw [unhexB_cons, toNat_of (h a (.head _)), toNat_of (h b (.tail _ (.head _))), unhexB_pair r fun x hx => h x (.tail _ (.tail _ hx))]
    rfl
theorem unhex_even {n : Nat} (h : (hexDigs n).length % 2 = 0) : unhexB (chB (hexDigs n)) = octB n := by
  rw [unhexB_pair _ fun x hx => Nat.lt_trans (hex_lt (hexDigs_all n) x hx) (by decide), ← padE_hex, padE, if_pos h]
theorem unhex_odd {n : Nat} (h : ¬ (hexDigs n).length % 2 = 0) : unhexB (chB (48 :: hexDigs n)) = octB n := by
  rw [unhexB_pair _ ?_, ← padE_hex, padE, if_neg h]
  intro x hx
  rcases List.mem_cons.mp hx with rfl | hx
  · decide
  · exact Nat.lt_trans (hex_lt (hexDigs_all n) x hx) (by decide)
theorem all_zero {ds : List Nat} (h : AllHex ds) : AllHex (48 :: ds) := fun c hc => by
  rcases List.mem_cons.mp hc with rfl | hc
  · exact .inl (by decide)
  · exact h c hc
theorem fm_odd {ds : List Nat} (h : ((ds.length : Nat) : Int).fmod 2 ≠ 0) : (48 :: ds).length % 2 = 0 := by
  rw [Int.fmod_eq_emod_of_nonneg _ (by decide)] at h
  rw [List.length_cons]
  omega
theorem fm_even {ds : List Nat} (h : ((ds.length : Nat) : Int).fmod 2 = 0) : ds.length % 2 = 0 := by
  rw [Int.fmod_eq_emod_of_nonneg _ (by decide)] at h
  omega
theorem log_small {n : Nat} (h : n < 2 ^ 1900) : n.log2 < 1920 := by
  by_cases hz : n = 0
  · subst hz; decide
  · have := (Nat.log2_lt hz).mpr h
    omega
theorem bor128 : ∀ k : Nat, k ≤ 3 → Builtin.bitOr 128 (k : Int) = 128 + (k : Int) := by
  intro k hk
  match k, hk with
  | 0, _ => decide +kernel
  | 1, _ => decide +kernel
  | 2, _ => decide +kernel
  | 3, _ => decide +kernel
def lenB (n : Nat) : List UInt8 := if n < 128 then [n.toUInt8] else (128 + (octB n).length).toUInt8 :: octB n
local macro_rules | `(tactic| walk_at "call ref") => `(tactic| (k_here; k_dflt (refine' ConN (con_int2byte _ _ (by k_extra "idx") (by k_extra "idx")) ?k1 ?k2 ?k3 ?k4 ?k5 ?kK ?kd ?ku ?_; (case k1 => k_asm); (case k2 => k_asm); (case k3 => k_asm); (case k4 => k_asm); (case k5 => k_asm); (case kK => first | exact rfl | assumption); (case kd => ktr_room); (case ku => ktr_units)); intro t' h' tk' F' N'; (try dsimp only); (try k_sweep)))
theorem con_unx_even (N : Nat) (t : Tok) (he : (((hexDigs N).length : Nat) : Int).fmod 2 = 0) (hz : (hexDigs N).length ≤ 1000) : Con 4 119 [.str ⟨(hexDigs N).toArray⟩ t] [] (fun t' => .bytes (octB N).toArray t') := by
  have := con_a2b_str (hexDigs N) t (hexDigs_all N) (fm_even he) (by omega)
  rw [unhex_even (fm_even he)] at this
  exact this
theorem con_unx_odd (N : Nat) (t : Tok) (he : (((hexDigs N).length : Nat) : Int).fmod 2 ≠ 0) (hz : (hexDigs N).length ≤ 1000) : Con 4 119 [.str ⟨(48 :: hexDigs N).toArray⟩ t] [] (fun t' => .bytes (octB N).toArray t') := by
  have := con_a2b_str (48 :: hexDigs N) t (all_zero (hexDigs_all N)) (fm_odd he) (by simp only [List.length_cons]; omega)
  have h2 := fm_odd he
  rw [List.length_cons] at h2
  rw [unhex_odd (by omega)] at this
  exact this
theorem con_unb_even (N : Nat) (t : Tok) (he : (((hexDigs N).length : Nat) : Int).fmod 2 = 0) (hz : (hexDigs N).length ≤ 1000) : Con 4 119 [.bytes (chB (hexDigs N)).toArray t] [] (fun t' => .bytes (octB N).toArray t') := by
  have := con_a2b_bytes (chB (hexDigs N)) t (by rw [chB_nat (hex_lt (hexDigs_all N))]; exact hexDigs_all N) (by rw [chB_length]; exact fm_even he) (by rw [chB_length]; omega)
  rw [unhex_even (fm_even he)] at this
  exact this
theorem con_unb_odd (N : Nat) (t : Tok) (he : (((hexDigs N).length : Nat) : Int).fmod 2 ≠ 0) (hz : (hexDigs N).length ≤ 1000) : Con 4 119 [.bytes (chB (48 :: hexDigs N)).toArray t] [] (fun t' => .bytes (octB N).toArray t') := by
  have := con_a2b_bytes (chB (48 :: hexDigs N)) t (by rw [chB_nat (hex_lt (all_zero (hexDigs_all N)))]; exact all_zero (hexDigs_all N)) (by rw [chB_length]; exact fm_odd he) (by rw [chB_length, List.length_cons]; omega)
  have h2 := fm_odd he
  rw [List.length_cons] at h2
  rw [unhex_odd (by omega)] at this
  exact this
local macro_rules | `(tactic| walk_at "call ref") => `(tactic| (k_here; k_dflt (refine' ConN (con_unx_even _ _ (by assumption) (by k_extra "slen")) ?k1 ?k2 ?k3 ?k4 ?k5 ?kK ?kd ?ku ?_; (case k1 => k_asm); (case k2 => k_asm); (case k3 => k_asm); (case k4 => k_asm); (case k5 => k_asm); (case kK => first | exact rfl | assumption); (case kd => ktr_room); (case ku => ktr_units)); intro t' h' tk' F' N'; (try dsimp only); (try k_sweep)))
local macro_rules | `(tactic| walk_at "call ref") => `(tactic| (k_here; k_dflt (refine' ConN (con_unx_odd _ _ (by assumption) (by k_extra "slen")) ?k1 ?k2 ?k3 ?k4 ?k5 ?kK ?kd ?ku ?_; (case k1 => k_asm); (case k2 => k_asm); (case k3 => k_asm); (case k4 => k_asm); (case k5 => k_asm); (case kK => first | exact rfl | assumption); (case kd => ktr_room); (case ku => ktr_units)); intro t' h' tk' F' N'; (try dsimp only); (try k_sweep)))
local macro_rules | `(tactic| walk_at "call ref") => `(tactic| (k_here; k_dflt (refine' ConN (con_unb_even _ _ (by assumption) (by k_extra "slen")) ?k1 ?k2 ?k3 ?k4 ?k5 ?kK ?kd ?ku ?_; (case k1 => k_asm); (case k2 => k_asm); (case k3 => k_asm); (case k4 => k_asm); (case k5 => k_asm); (case kK => first | exact rfl | assumption); (case kd => ktr_room); (case ku => ktr_units)); intro t' h' tk' F' N'; (try dsimp only); (try k_sweep)))
local macro_rules | `(tactic| walk_at "call ref") => `(tactic| (k_here; k_dflt (refine' ConN (con_unb_odd _ _ (by assumption) (by k_extra "slen")) ?k1 ?k2 ?k3 ?k4 ?k5 ?kK ?kd ?ku ?_; (case k1 => k_asm); (case k2 => k_asm); (case k3 => k_asm); (case k4 => k_asm); (case k5 => k_asm); (case kK => first | exact rfl | assumption); (case kd => ktr_room); (case ku => ktr_units)); intro t' h' tk' F' N'; (try dsimp only); (try k_sweep)))
set_option maxRecDepth 100000 in
set_option maxHeartbeats 8000000 in
theorem con_enclen (n : Int) (t : Tok) (h0 : 0 ≤ n) (h1 : n < 16777216) : Con 6 153 [.int n t] [] (fun t' => .bytes (lenB n.toNat).toArray t') := by
  have hfill9 : Mine.hd.heap_39 = Mine.hd.heap_39 ∧ PySem.Challenge.rw_fe0233_01 = PySem.Challenge.rw_fe0233_01 := (by k_fill; exact ⟨rfl, rfl⟩)
  clear hfill9
  intro prog w mean mg mb dp un gd cn cs a ccd cl outer A₀ base h₀ L m news s Q E B F X N T hk hdp hun hret
  refine wpAny_call ?_
  k_dflt (refine' code_def ?k1 ?k2 ?k3 ?k4 ?k5 ?kA ?kF ?kK ?k6 ?k7 ?k8 ?k9 ?kB ?_ ?c2 ?c3 ?c4 ?c5; (case kA => exact rfl); (case kF => exact rfl); (case kK => assumption); (case k1 => k_asm); (case k2 => k_asm); (case k3 => k_asm); (case k4 => k_asm); (case k5 => k_asm); (case k6 => k_is); (case k7 => k_is); (case k8 => ktr_room); (case k9 => first | exact BindsTo.of_eq rfl | exact binds_K (by k_in) rfl (by k_is) rfl rfl rfl); (case c5 => decide); (case kB => exact locs rfl); (case c2 => exact rfl); (case c3 => exact rfl); (case c4 => exact rfl); k_whole; intro g' L' h' FG' F' N' B' X' T'; (try dsimp only); (try k_fold))
  have hlen := hexDigs_length n.natAbs 5 (by omega)
  have ho := octL_length n.natAbs 2 (by omega)
  have hob : (octB n.natAbs).length ≤ 3 := by rw [octB_length]; omega
  have hall := hexDigs_all n.natAbs
  have hbo : Builtin.bitOr 128 ((octB n.natAbs).length : Int) = 128 + ((octB n.natAbs).length : Int) := bor128 _ hob
  k_with "idx" => first | omega | (rw [hbo]; omega)
  k_with "hexlen" => omega
  have hlog : n.natAbs.log2 < 1920 := log_small (Nat.lt_of_lt_of_le (by omega : n.natAbs < 2 ^ 24) (Nat.pow_le_pow_right (by decide) (by decide)))
  k_with "log" => exact hlog
  k_with "slen" => first | omega | (simp only [List.length_cons]; omega)
  k_with "size" => first | omega | (simp only [List.length_cons, List.length_nil]; omega)
  k_steps
  all_goals (refine ret_B hret ?_ (by k_asm) (by k_asm); unfold lenB)
  · rw [if_pos (by omega)]
  all_goals
    rw [if_neg (by omega), hbo, show n.natAbs = n.toNat by omega, show (128 + ((octB n.toNat).length : Int)).toNat = 128 + (octB n.toNat).length by omega]
    rfl
end Mine
end

noncomputable section
open PySem PySem.W PyProof.Rows
namespace Mine
theorem freshW4 : True := by
  k_with_none
  w_top off
  trivial
local macro_rules | `(tactic| walk_at "no such key") => `(tactic| skip)
local macro_rules | `(tactic| walk_at "subscriptTail") => `(tactic| (k_here; (with_reducible show wpAny _ _ (subscriptTail _ _ (Value.bytes (List.toArray _) _) (Value.int _ _)) _ _ _); (refine item_L (by k_extra "size") (by k_extra "idx") (by k_extra "idx") ?_); intro _ _))
local macro_rules | `(tactic| walk_at "subscriptTail") => `(tactic| (k_here; (with_reducible show wpAny _ _ (subscriptTail _ (Expr.Slice _ _ none _) (Value.bytes (List.toArray _) _) (Value.ref _)) _ _ _); (with_reducible rename Fr _ _ _ _ => F9); (with_reducible rename News _ _ _ _ => N9); (first
  | refine slice_to (s := ⟨_, _, _, _, _⟩) F9 N9 (by k_extra "idx") (by k_extra "size") ?_
  | refine slice_from (s := ⟨_, _, _, _, _⟩) F9 N9 (by k_extra "idx") (by k_extra "size") ?_
  | refine slice_mid (s := ⟨_, _, _, _, _⟩) F9 N9 (by k_extra "idx") (by k_extra "idx") (by k_extra "size") ?_); intro h' t' tk' F' N'; (try k_extra "cut"); (try k_sweep)))
local macro_rules | `(tactic| walk_at "binaryOp Add bytes bytes") => `(tactic| (k_here; (with_reducible show wpAny _ _ (binaryOp Operator.Add (Value.bytes (List.toArray _) _) (Value.bytes (List.toArray _) _)) _ _ _); (refine add_L (by k_extra "size") ?_); intro _ _))
local macro_rules | `(tactic| walk_at "call builtin:len") => `(tactic| (k_here; (with_reducible show wpAny _ _ (call (Value.builtin "len") [Value.bytes (List.toArray _) _]) _ _ _); (refine len_L (by k_extra "size") ?_); intro _ _))
local macro_rules | `(tactic| walk_at "call builtin:ord") => `(tactic| (k_here; (with_reducible show wpAny _ _ (call (Value.builtin "ord") [Value.bytes (List.toArray _) _]) _ _ _); (refine ord_L ?_ (by k_extra "one")); intro _ _))
local macro_rules | `(tactic| walk_at "compareOp NotEq bytes bytes") => `(tactic| (k_here; (with_reducible refine ne_L ?_)))
local macro_rules | `(tactic| walk_at "compareOp Eq bytes bytes") => `(tactic| (k_here; (with_reducible refine eq_L ?_)))
local macro_rules | `(tactic| walk_at "getMethod str") => `(tactic| (k_here; with_reducible refine meth_encode ?_))
local macro_rules | `(tactic| walk_at "getMethod bytes") => `(tactic| (k_here; with_reducible refine meth_hex ?_))
local macro_rules | `(tactic| walk_at "getMethod bytes") => `(tactic| (k_here; with_reducible refine meth_starts ?_))
local macro_rules | `(tactic| walk_at "getMethod bytes") => `(tactic| (k_here; with_reducible refine meth_join ?_))
local macro_rules | `(tactic| walk_at "call builtin:str.encode") => `(tactic| (k_here; (first | refine call_encode8 (by k_extra "ascii") (by k_extra "size") ?_ | refine call_encodeA (by k_extra "ascii") (by k_extra "size") ?_); intro _ _))
local macro_rules | `(tactic| walk_at "call builtin:bytes.hex") => `(tactic| (k_here; (refine call_hex (by k_extra "size") ?_); intro _ _))
local macro_rules | `(tactic| walk_at "call builtin:bytes.startswith") => `(tactic| (k_here; k_dflt (refine call_starts ?_); intro _))
local macro_rules | `(tactic| walk_at "call builtin:_struct.pack") => `(tactic| (k_here; (refine call_pack (by k_extra "idx") (by k_extra "idx") ?_); intro _ _))
local macro_rules | `(tactic| walk_at "call type:type") => `(tactic| (k_here; k_dflt (first | refine call_type_of (typeIs_bytes _ _ _) (by decide +kernel) ?_ | refine call_type_of (typeIs_str _ _ _) (by decide +kernel) ?_ | refine call_type_of (typeIs_int _ _ _) (by decide +kernel) ?_)))
local macro_rules | `(tactic| walk_at "compareOp Is") => `(tactic| (k_here; (with_reducible show wpAny _ _ (compareOp CmpOp.Is (Value.type _) (Value.type _)) _ _ _); (first | refine wpAny_is_self (by rfl) ?_ | refine wpAny_is_other (by rfl) (by decide) ?_)))
local macro_rules | `(tactic| walk_at "compareOp IsNot") => `(tactic| (k_here; (with_reducible show wpAny _ _ (compareOp CmpOp.IsNot (Value.type _) (Value.type _)) _ _ _); (first | refine wpAny_isNot_self (by rfl) ?_ | refine wpAny_isNot_other (by rfl) (by decide) ?_)))
local macro_rules | `(tactic| walk_at "call type:bytes") => `(tactic| (k_here; (with_reducible show wpAny _ _ (call (Value.type "bytes") [Value.ref _]) _ _ _); k_dflt (refine' make_L ?F ?N ?h ?l ?i ?r ?n ?_; (case F => k_asm); (case N => k_asm); (case h => rfl); (case l => kba_isList); (case i => kba_listInts); (case r => k_extra "in"); (case n => k_extra "size")); intro h' t' tk' F' N'; (try k_sweep)))
local macro_rules | `(tactic| passes_own) => `(tactic| exact PassesOwn.leaving)
local macro_rules | `(tactic| walk_at "binaryOp Mod str int") => `(tactic| (k_here; (with_reducible show wpAny _ _ (binaryOp Operator.Mod (Value.str _ _) (Value.int _ _)) _ _ _); (refine mod_X (by k_extra "idx") (by k_extra "hexlen") (by k_extra "log") ?_); intro _ _))
local macro_rules | `(tactic| walk_at "call builtin:len") => `(tactic| (k_here; (with_reducible show wpAny _ _ (call (Value.builtin "len") [Value.str _ _]) _ _ _); (refine len_S (by k_extra "slen") ?_); intro _ _))
local macro_rules | `(tactic| walk_at "binaryOp Add str str") => `(tactic| (k_here; (with_reducible show wpAny _ _ (binaryOp Operator.Add (Value.str _ _) (Value.str _ _)) _ _ _); (refine add_S0 (by k_extra "slen") ?_); intro _ _))
local macro_rules | `(tactic| walk_at "binaryOp BitAnd int int") => `(tactic| (k_here; (refine and_at (by k_extra "and") ?_); intro _ _))
local macro_rules | `(tactic| walk_at "call type:int") => `(tactic| (k_here; (with_reducible show wpAny _ _ (call (Value.type "int") [Value.bytes (List.toArray _) _, Value.int _ _]) _ _ _); k_dflt (refine int16_L (by k_extra "size") (by k_extra "size") ?_); intro _ _))
local macro_rules | `(tactic| walk_at "call builtin:bytes.startswith") => `(tactic| (k_here; k_dflt (refine starts_at (by k_extra "starts") ?_); intro _))
local macro_rules | `(tactic| walk_at "call builtin:bytes.join") => `(tactic| (k_here; k_dflt (refine' join_L ?F ?N ?m ?T ?c ?d ?p ?z ?_; (case F => k_asm); (case N => k_asm); (case m => k_mem); (case c => exact rfl); (case T => first | exact .inl rfl | exact .inr rfl); (case d => exact rfl); (case p => k_extra "pieces"); (case z => k_extra "size")); intro _ _))
local macro_rules | `(tactic| walk_at "eval ListComp") => `(tactic| (k_here; lcg_look; (with_reducible show wpAny _ _ (eval (Expr.ListComp _ [⟨_, Expr.Name "encoded_pieces" _, _, _⟩] _ _) _) _ _ _); k_dflt (refine ListComp_T (F₀ := by k_asm) (by rfl) (by decide) (by rfl) (by decide) (by rfl) ?_)))
local macro_rules | `(tactic| walk_at "CompTup") => `(tactic| (k_here; k_dflt (refine CompTup.ledger (by rfl) (by k_asm) (by k_asm) (by k_mem) (by first | size_fits | exact Nat.le_of_ble_eq_true rfl) ?_); intro g'; lcg_lit))
local macro_rules | `(tactic| lcg_src) => `(tactic| exact ⟨_, by k_mem, rfl, _, rfl⟩)
local macro_rules | `(tactic| walk_at "CompEnd") => `(tactic| ((with_reducible rename Fr _ _ _ _ => F9); (with_reducible rename News _ _ _ _ => N9); (with_reducible rename LCg.Off3 _ _ _ _ ∧ _ => o9); refine ⟨_, _, _, rfl, F9, N9, o9, by lcg_src, ?_⟩))
local macro_rules | `(tactic| walk_at "CompEnd") => `(tactic| ((with_reducible rename Fr _ _ _ _ => F9); (with_reducible rename News _ _ _ _ => N9); (with_reducible rename _ ∧ LCg.Off3 _ _ _ _ => o9); refine ⟨_, _, _, rfl, F9, N9, o9, by lcg_src, ?_⟩))
local macro_rules | `(tactic| walk_at "UnrEnd") => `(tactic| ((with_reducible rename Fr _ _ _ _ => F9); (with_reducible rename News _ _ _ _ => N9); (with_reducible rename _ < _ ∧ AllLt _ _ => l9); refine' UnrEnd.intro F9 N9 _ (fun p hp => hp) ?off ?_; (case off => exact fun p hp => Nat.ne_of_lt (ktn_ltOf (by exact l9) p hp))))

theorem octB_ne (n : Nat) : octB n ≠ [] := by
  unfold octB
  intro h
  exact octL_ne n (List.map_eq_nil_iff.mp h)
theorem take_one {l : List UInt8} (h : l ≠ []) : l.take (Int.toNat 1) = [l.headD 0] := by
  cases l with
  | nil => exact absurd rfl h
  | cons x r => rfl
def intC (n : Nat) : List UInt8 := if ((octB n).headD 0).toNat ≤ 127 then octB n else 0 :: octB n
def intB (n : Nat) : List UInt8 := [2] ++ [(intC n).length.toUInt8] ++ intC n
theorem intB_pos {N : Nat} (h : ((octB N).headD 0).toNat ≤ 127) : [2] ++ [((octB N).length : Int).toNat.toUInt8] ++ octB N = intB N := by
  unfold intB intC
  rw [if_pos h, Int.toNat_natCast]
theorem intB_neg {N : Nat} (h : ¬ ((octB N).headD 0).toNat ≤ 127) : [2] ++ [(((octB N).length : Int) + 1).toNat.toUInt8] ++ [0] ++ octB N = intB N := by
  unfold intB intC
  rw [if_neg h, show (((octB N).length : Int) + 1).toNat = (0 :: octB N).length by rw [List.length_cons]; omega]
  simp
local macro_rules | `(tactic| walk_at "call ref") => `(tactic| (k_here; k_dflt (refine' ConN (con_int2byte _ _ (by k_extra "idx") (by k_extra "idx")) ?k1 ?k2 ?k3 ?k4 ?k5 ?kK ?kd ?ku ?_; (case k1 => k_asm); (case k2 => k_asm); (case k3 => k_asm); (case k4 => k_asm); (case k5 => k_asm); (case kK => first | exact rfl | assumption); (case kd => ktr_room); (case ku => ktr_units)); intro t' h' tk' F' N'; (try dsimp only); (try k_sweep)))
local macro_rules | `(tactic| walk_at "call ref") => `(tactic| (k_here; k_dflt (refine' ConN (con_unx_even _ _ (by assumption) (by k_extra "slen")) ?k1 ?k2 ?k3 ?k4 ?k5 ?kK ?kd ?ku ?_; (case k1 => k_asm); (case k2 => k_asm); (case k3 => k_asm); (case k4 => k_asm); (case k5 => k_asm); (case kK => first | exact rfl | assumption); (case kd => ktr_room); (case ku => ktr_units)); intro t' h' tk' F' N'; (try dsimp only); (try k_sweep)))
local macro_rules | `(tactic| walk_at "call ref") => `(tactic| (k_here; k_dflt (refine' ConN (con_unx_odd _ _ (by assumption) (by k_extra "slen")) ?k1 ?k2 ?k3 ?k4 ?k5 ?kK ?kd ?ku ?_; (case k1 => k_asm); (case k2 => k_asm); (case k3 => k_asm); (case k4 => k_asm); (case k5 => k_asm); (case kK => first | exact rfl | assumption); (case kd => ktr_room); (case ku => ktr_units)); intro t' h' tk' F' N'; (try dsimp only); (try k_sweep)))
local macro_rules | `(tactic| walk_at "call ref") => `(tactic| (k_here; k_dflt (refine' ConN (con_unb_even _ _ (by assumption) (by k_extra "slen")) ?k1 ?k2 ?k3 ?k4 ?k5 ?kK ?kd ?ku ?_; (case k1 => k_asm); (case k2 => k_asm); (case k3 => k_asm); (case k4 => k_asm); (case k5 => k_asm); (case kK => first | exact rfl | assumption); (case kd => ktr_room); (case ku => ktr_units)); intro t' h' tk' F' N'; (try dsimp only); (try k_sweep)))
local macro_rules | `(tactic| walk_at "call ref") => `(tactic| (k_here; k_dflt (refine' ConN (con_unb_odd _ _ (by assumption) (by k_extra "slen")) ?k1 ?k2 ?k3 ?k4 ?k5 ?kK ?kd ?ku ?_; (case k1 => k_asm); (case k2 => k_asm); (case k3 => k_asm); (case k4 => k_asm); (case k5 => k_asm); (case kK => first | exact rfl | assumption); (case kd => ktr_room); (case ku => ktr_units)); intro t' h' tk' F' N'; (try dsimp only); (try k_sweep)))
set_option maxRecDepth 100000 in
set_option maxHeartbeats 8000000 in
theorem con_encint (n : Int) (t : Tok) (h0 : 0 ≤ n) (h1 : n < 1606938044258990275541962092341162602522202993782792835301376) : Con 6 126 [.int n t] [] (fun t' => .bytes (intB n.toNat).toArray t') := by
  have hfill9 : Mine.hd.heap_39 = Mine.hd.heap_39 ∧ PySem.Challenge.rw_fe0233_01 = PySem.Challenge.rw_fe0233_01 := (by k_fill; exact ⟨rfl, rfl⟩)
  clear hfill9
  intro prog w mean mg mb dp un gd cn cs a ccd cl outer A₀ base h₀ L m news s Q E B F X N T hk hdp hun hret
  refine wpAny_call ?_
  k_dflt (refine' code_def ?k1 ?k2 ?k3 ?k4 ?k5 ?kA ?kF ?kK ?k6 ?k7 ?k8 ?k9 ?kB ?_ ?c2 ?c3 ?c4 ?c5; (case kA => exact rfl); (case kF => exact rfl); (case kK => assumption); (case k1 => k_asm); (case k2 => k_asm); (case k3 => k_asm); (case k4 => k_asm); (case k5 => k_asm); (case k6 => k_is); (case k7 => k_is); (case k8 => ktr_room); (case k9 => first | exact BindsTo.of_eq rfl | exact binds_K (by k_in) rfl (by k_is) rfl rfl rfl); (case c5 => decide); (case kB => exact locs rfl); (case c2 => exact rfl); (case c3 => exact rfl); (case c4 => exact rfl); k_whole; intro g' L' h' FG' F' N' B' X' T'; (try dsimp only); (try k_fold))
  have hlen := hexDigs_length n.natAbs 49 (by omega)
  have ho := octL_length n.natAbs 24 (by omega)
  have hob : (octB n.natAbs).length ≤ 25 := by rw [octB_length]; omega
  have hlog : n.natAbs.log2 < 1920 := log_small (Nat.lt_of_lt_of_le (by omega : n.natAbs < 2 ^ 200) (Nat.pow_le_pow_right (by decide) (by decide)))
  have hone := take_one (octB_ne n.natAbs)
  have hall : ∀ x ∈ hexDigs n.natAbs, x < 128 := hex_lt (hexDigs_all n.natAbs)
  have hall0 : ∀ x ∈ 48 :: hexDigs n.natAbs, x < 128 := hex_lt (all_zero (hexDigs_all n.natAbs))
  clear h1
  k_with "idx" => first | assumption | omega
  k_with "hexlen" => omega
  k_with "log" => exact hlog
  k_with "one" => exact hone
  k_with "ascii" => first | exact hall | exact hall0
  k_with "slen" => first | omega | (simp only [List.length_cons]; omega)
  k_with "size" => first | omega | (rw [sizeLine_eq]; omega) | (simp only [List.length_cons, List.length_append, List.length_nil]; omega) | (rw [sizeLine_eq]; simp only [List.length_cons]; omega)
  k_steps
  all_goals
    refine ret_B hret ?_ (by k_asm) (by k_asm)
    have hnn : n.natAbs = n.toNat := by omega
    rw [← hnn]
    first | exact intB_pos (by omega) | exact intB_neg (by omega)
end Mine
end

noncomputable section
open PySem PySem.W PyProof.Rows
namespace Mine
theorem freshW5 : True := by
  k_with_none
  w_top off
  trivial
local macro_rules | `(tactic| walk_at "subscriptTail") => `(tactic| (k_here; (with_reducible show wpAny _ _ (subscriptTail _ _ (Value.bytes (List.toArray _) _) (Value.int _ _)) _ _ _); (refine item_L (by k_extra "size") (by k_extra "idx") (by k_extra "idx") ?_); intro _ _))
local macro_rules | `(tactic| walk_at "subscriptTail") => `(tactic| (k_here; (with_reducible show wpAny _ _ (subscriptTail _ (Expr.Slice _ _ none _) (Value.bytes (List.toArray _) _) (Value.ref _)) _ _ _); (with_reducible rename Fr _ _ _ _ => F9); (with_reducible rename News _ _ _ _ => N9); (first
  | refine slice_to (s := ⟨_, _, _, _, _⟩) F9 N9 (by k_extra "idx") (by k_extra "size") ?_
  | refine slice_from (s := ⟨_, _, _, _, _⟩) F9 N9 (by k_extra "idx") (by k_extra "size") ?_
  | refine slice_mid (s := ⟨_, _, _, _, _⟩) F9 N9 (by k_extra "idx") (by k_extra "idx") (by k_extra "size") ?_); intro h' t' tk' F' N'; (try k_extra "cut"); (try k_sweep)))
local macro_rules | `(tactic| walk_at "binaryOp Add bytes bytes") => `(tactic| (k_here; (with_reducible show wpAny _ _ (binaryOp Operator.Add (Value.bytes (List.toArray _) _) (Value.bytes (List.toArray _) _)) _ _ _); (refine add_L (by k_extra "size") ?_); intro _ _))
local macro_rules | `(tactic| walk_at "call builtin:len") => `(tactic| (k_here; (with_reducible show wpAny _ _ (call (Value.builtin "len") [Value.bytes (List.toArray _) _]) _ _ _); (refine len_L (by k_extra "size") ?_); intro _ _))
local macro_rules | `(tactic| walk_at "call builtin:ord") => `(tactic| (k_here; (with_reducible show wpAny _ _ (call (Value.builtin "ord") [Value.bytes (List.toArray _) _]) _ _ _); (refine ord_L ?_ (by k_extra "one")); intro _ _))
local macro_rules | `(tactic| walk_at "compareOp NotEq bytes bytes") => `(tactic| (k_here; (with_reducible refine ne_L ?_)))
local macro_rules | `(tactic| walk_at "compareOp Eq bytes bytes") => `(tactic| (k_here; (with_reducible refine eq_L ?_)))
local macro_rules | `(tactic| walk_at "getMethod str") => `(tactic| (k_here; with_reducible refine meth_encode ?_))
local macro_rules | `(tactic| walk_at "getMethod bytes") => `(tactic| (k_here; with_reducible refine meth_hex ?_))
local macro_rules | `(tactic| walk_at "getMethod bytes") => `(tactic| (k_here; with_reducible refine meth_starts ?_))
local macro_rules | `(tactic| walk_at "getMethod bytes") => `(tactic| (k_here; with_reducible refine meth_join ?_))
local macro_rules | `(tactic| walk_at "call builtin:str.encode") => `(tactic| (k_here; (first | refine call_encode8 (by k_extra "ascii") (by k_extra "size") ?_ | refine call_encodeA (by k_extra "ascii") (by k_extra "size") ?_); intro _ _))
local macro_rules | `(tactic| walk_at "call builtin:bytes.hex") => `(tactic| (k_here; (refine call_hex (by k_extra "size") ?_); intro _ _))
local macro_rules | `(tactic| walk_at "call builtin:bytes.startswith") => `(tactic| (k_here; k_dflt (refine call_starts ?_); intro _))
local macro_rules | `(tactic| walk_at "call builtin:_struct.pack") => `(tactic| (k_here; (refine call_pack (by k_extra "idx") (by k_extra "idx") ?_); intro _ _))
local macro_rules | `(tactic| walk_at "call type:type") => `(tactic| (k_here; k_dflt (first | refine call_type_of (typeIs_bytes _ _ _) (by decide +kernel) ?_ | refine call_type_of (typeIs_str _ _ _) (by decide +kernel) ?_ | refine call_type_of (typeIs_int _ _ _) (by decide +kernel) ?_)))
local macro_rules | `(tactic| walk_at "compareOp Is") => `(tactic| (k_here; (with_reducible show wpAny _ _ (compareOp CmpOp.Is (Value.type _) (Value.type _)) _ _ _); (first | refine wpAny_is_self (by rfl) ?_ | refine wpAny_is_other (by rfl) (by decide) ?_)))
local macro_rules | `(tactic| walk_at "compareOp IsNot") => `(tactic| (k_here; (with_reducible show wpAny _ _ (compareOp CmpOp.IsNot (Value.type _) (Value.type _)) _ _ _); (first | refine wpAny_isNot_self (by rfl) ?_ | refine wpAny_isNot_other (by rfl) (by decide) ?_)))
local macro_rules | `(tactic| walk_at "call type:bytes") => `(tactic| (k_here; (with_reducible show wpAny _ _ (call (Value.type "bytes") [Value.ref _]) _ _ _); k_dflt (refine' make_L ?F ?N ?h ?l ?i ?r ?n ?_; (case F => k_asm); (case N => k_asm); (case h => rfl); (case l => kba_isList); (case i => kba_listInts); (case r => k_extra "in"); (case n => k_extra "size")); intro h' t' tk' F' N'; (try k_sweep)))
local macro_rules | `(tactic| passes_own) => `(tactic| exact PassesOwn.leaving)
local macro_rules | `(tactic| walk_at "binaryOp Mod str int") => `(tactic| (k_here; (with_reducible show wpAny _ _ (binaryOp Operator.Mod (Value.str _ _) (Value.int _ _)) _ _ _); (refine mod_X (by k_extra "idx") (by k_extra "hexlen") (by k_extra "log") ?_); intro _ _))
local macro_rules | `(tactic| walk_at "call builtin:len") => `(tactic| (k_here; (with_reducible show wpAny _ _ (call (Value.builtin "len") [Value.str _ _]) _ _ _); (refine len_S (by k_extra "slen") ?_); intro _ _))
local macro_rules | `(tactic| walk_at "binaryOp Add str str") => `(tactic| (k_here; (with_reducible show wpAny _ _ (binaryOp Operator.Add (Value.str _ _) (Value.str _ _)) _ _ _); (refine add_S0 (by k_extra "slen") ?_); intro _ _))
local macro_rules | `(tactic| walk_at "binaryOp BitAnd int int") => `(tactic| (k_here; (refine and_at (by k_extra "and") ?_); intro _ _))
local macro_rules | `(tactic| walk_at "call type:int") => `(tactic| (k_here; (with_reducible show wpAny _ _ (call (Value.type "int") [Value.bytes (List.toArray _) _, Value.int _ _]) _ _ _); k_dflt (refine int16_L (by k_extra "size") (by k_extra "size") ?_); intro _ _))
local macro_rules | `(tactic| walk_at "call builtin:bytes.startswith") => `(tactic| (k_here; k_dflt (refine starts_at (by k_extra "starts") ?_); intro _))
local macro_rules | `(tactic| walk_at "call builtin:bytes.join") => `(tactic| (k_here; k_dflt (refine' join_L ?F ?N ?m ?T ?c ?d ?p ?z ?_; (case F => k_asm); (case N => k_asm); (case m => k_mem); (case c => exact rfl); (case T => first | exact .inl rfl | exact .inr rfl); (case d => exact rfl); (case p => k_extra "pieces"); (case z => k_extra "size")); intro _ _))
local macro_rules | `(tactic| walk_at "eval ListComp") => `(tactic| (k_here; lcg_look; (with_reducible show wpAny _ _ (eval (Expr.ListComp _ [⟨_, Expr.Name "encoded_pieces" _, _, _⟩] _ _) _) _ _ _); k_dflt (refine ListComp_T (F₀ := by k_asm) (by rfl) (by decide) (by rfl) (by decide) (by rfl) ?_)))
local macro_rules | `(tactic| walk_at "CompTup") => `(tactic| (k_here; k_dflt (refine CompTup.ledger (by rfl) (by k_asm) (by k_asm) (by k_mem) (by first | size_fits | exact Nat.le_of_ble_eq_true rfl) ?_); intro g'; lcg_lit))
local macro_rules | `(tactic| lcg_src) => `(tactic| exact ⟨_, by k_mem, rfl, _, rfl⟩)
local macro_rules | `(tactic| walk_at "CompEnd") => `(tactic| ((with_reducible rename Fr _ _ _ _ => F9); (with_reducible rename News _ _ _ _ => N9); (with_reducible rename LCg.Off3 _ _ _ _ ∧ _ => o9); refine ⟨_, _, _, rfl, F9, N9, o9, by lcg_src, ?_⟩))
local macro_rules | `(tactic| walk_at "CompEnd") => `(tactic| ((with_reducible rename Fr _ _ _ _ => F9); (with_reducible rename News _ _ _ _ => N9); (with_reducible rename _ ∧ LCg.Off3 _ _ _ _ => o9); refine ⟨_, _, _, rfl, F9, N9, o9, by lcg_src, ?_⟩))
local macro_rules | `(tactic| walk_at "UnrEnd") => `(tactic| ((with_reducible rename Fr _ _ _ _ => F9); (with_reducible rename News _ _ _ _ => N9); (with_reducible rename _ < _ ∧ AllLt _ _ => l9); refine' UnrEnd.intro F9 N9 _ (fun p hp => hp) ?off ?_; (case off => exact fun p hp => Nat.ne_of_lt (ktn_ltOf (by exact l9) p hp))))

def octT (m : Nat) : List Nat := if m = 0 then [] else octL m
theorem octT_step (m : Nat) : octT (m / 256) ++ [m % 256] = octL m := by
  unfold octT
  by_cases h : m < 256
  · rw [if_pos (by omega), octL_lt h, List.nil_append, Nat.mod_eq_of_lt h]
  · rw [if_neg (by omega), octL_ge h]
def natI (l : List Nat) : List Int := l.map fun (n : Nat) => (n : Int)
theorem toB_natI (l : List Nat) (h : ∀ x ∈ l, x < 256) : toB (natI l) = l.map fun c => c.toUInt8 := by
  unfold toB natI
  rw [List.map_map]
  exact List.map_congr_left fun x _ => rfl
abbrev OctS := Nat × List Nat × Addr × List Value × Nat × Tok
abbrev ocLed (news : List (Addr × Obj)) (c : OctS) : List (Addr × Obj) := (c.2.2.1, W.listOf c.2.2.2.1.toArray c.2.2.2.2.1) :: news
abbrev ocPs (c : OctS) : List (Str × Value) := [(Str.ofString "number", .int (c.1 : Int) c.2.2.2.2.2), (Str.ofString "octets", .ref c.2.2.1)]
abbrev ocF (c : OctS) : Prop := IntsAre c.2.2.2.1 (natI c.2.1)
abbrev ocP (n0 : Nat) (c : OctS) : Prop := octT c.1 ++ c.2.1 = octL n0
abbrev ocM (c : OctS) : Nat := c.1
theorem wh_oct {prog : Program} {w : World} {A : Around} {E : Value → Shared → Prop} {Q : Flow → Shared → Prop} {s : Shared} {env : Env} {h₀ : Heap} {L : Addr} {test : Expr} {body : List Stmt} {pos : Pos} {m₀ : Str → Option Value} {news : List (Addr × Obj)} {x : Addr} {t0 t1 : Tok} {n : Nat}
    (n0 : Nat) (F : Fr h₀ L s.heap m₀) (N : News h₀ L s.heap ((x, W.listOf #[.int ((n0 % 256 : Nat) : Int) t1] n) :: news)) (hi : m₀ (Str.ofString "number") = some (.int ((n0 / 256 : Nat) : Int) t0)) (ho : m₀ (Str.ofString "octets") = some (.ref x))
    (turn : ∀ (k : Nat) (l : List Nat) (x : Addr) (vs : List Value) (n : Nat) (tok : Tok) (u : Str → Option Value) h tk, IntsAre vs (natI l) → octT k ++ l = octL n0 → Fr h₀ L h (kstB (fun z => if ([] : List Str).contains z then u z else m₀ z) [(Str.ofString "number", .int (k : Int) tok), (Str.ofString "octets", .ref x)]) → News h₀ L h ((x, W.listOf vs.toArray n) :: news) →
      wpAny (model prog w) A (isTrue test env (eval test env)) (fun b s₂ =>
        if b = true then wpAny (model prog w) A (execs body env) (KswPost h₀ L s (ocLed news) ocPs ocF [] m₀ (ocP n0) ocM Q (k, l, x, vs, n, tok)) E s₂ else Q .next s₂) E { s with heap := h, toks := tk })
    (hE : PassesOwn (model prog w) A env E) :
    wpAny (model prog w) A (exec (.While test body [] pos) env) Q E s := by
  refine ksw_while (σ := OctS) (ocLed news) ocPs ocF [] (ocP n0) ocM (n0 / 256, [n0 % 256], x, [.int ((n0 % 256 : Nat) : Int) t1], n, t0) F N ?kf ?kk ?kp ?kt hE
  case kf => exact IntsAre.cons (((n0 % 256 : Nat) : Int)) t1 .nil
  case kk =>
    intro p hp
    rcases List.mem_cons.mp hp with rfl | hp
    · exact hi
    · rcases List.mem_cons.mp hp with rfl | hp
      · exact ho
      · cases hp
  case kp => exact octT_step n0
  case kt =>
    rintro ⟨k, l, x, vs, n, tok⟩ u h tk hf hp F1 N1
    exact turn k l x vs n tok u h tk hf hp F1 N1
theorem oc_end {h₀ h' : Heap} {L : Addr} {s : Shared} {news : List (Addr × Obj)} {m₀ m' : Str → Option Value} {n0 k : Nat} {l : List Nat} {x x' : Addr} {vs vs0 : List Value} {t1 tok tok0 : Tok} {q r : Addr × Obj} {tk n : Nat}
    (hf : IntsAre vs (natI l)) (hp : octT k ++ l = octL n0) (hk : 0 < k) (F : Fr h₀ L h' m') (N : News h₀ L h' ((x', W.listOf ([Value.int ((k % 256 : Nat) : Int) t1] ++ vs).toArray 0) :: q :: r :: news))
    (hi : m' (Str.ofString "number") = some (.int ((k / 256 : Nat) : Int) tok)) (ho : m' (Str.ofString "octets") = some (.ref x')) (hr : ∀ z, z ≠ Str.ofString "number" → z ≠ Str.ofString "octets" → m' z = m₀ z) :
    KswEnd h₀ L s (ocLed news) ocPs ocF [] m₀ (ocP n0) ocM (k, l, x, vs0, n, tok0) { s with heap := h', toks := tk } := by
  refine ksw_end (k / 256, (k % 256) :: l, x', .int ((k % 256 : Nat) : Int) t1 :: vs, 0, tok) F N ?hn ?hf ?hk ?hr ?hp ?hm
  case hn =>
    intro p hp
    rcases List.mem_cons.mp hp with rfl | hp
    · exact .head _
    · exact .tail _ (.tail _ (.tail _ hp))
  case hf => exact IntsAre.cons ((k % 256 : Nat) : Int) t1 hf
  case hk =>
    intro p hp
    rcases List.mem_cons.mp hp with rfl | hp
    · exact hi
    · rcases List.mem_cons.mp hp with rfl | hp
      · exact ho
      · cases hp
  case hr => exact fun z h2 _ => hr z (h2 _ (.head _)) (h2 _ (.tail _ (.head _)))
  case hp =>
    show octT (k / 256) ++ (k % 256 :: l) = octL n0
    rw [← hp, show octT k = octL k by unfold octT; rw [if_neg (by omega)], ← octT_step k, List.append_assoc]
    rfl
  case hm =>
    show k / 256 < k
    omega
local macro_rules | `(tactic| walk_at "binaryOp Mod int int") => `(tactic| (k_here; (with_reducible show wpAny _ _ (binaryOp Operator.Mod (Value.int (Nat.cast _) _) (Value.int 256 _)) _ _ _); (refine mod_N256 ?_); intro _ _))
local macro_rules | `(tactic| walk_at "binaryOp FloorDiv int int") => `(tactic| (k_here; (with_reducible show wpAny _ _ (binaryOp Operator.FloorDiv (Value.int (Nat.cast _) _) (Value.int 256 _)) _ _ _); (refine div_N256 ?_); intro _ _))
local macro_rules | `(tactic| walk_at "exec While Compare cons nil") => `(tactic| refine unstop ?_)
local macro_rules | `(tactic| walk_at "KswEnd") => `(tactic| refine unstop ?_)
set_option maxRecDepth 100000 in
set_option maxHeartbeats 8000000 in
theorem con_lawoct (n : Int) (t : Tok) (h0 : 0 ≤ n) (h1 : n < 1606938044258990275541962092341162602522202993782792835301376) : Con 2 167 [.int n t] [] (fun t' => .bytes (octB n.toNat).toArray t') := by
  obtain ⟨n0, rfl⟩ := Int.eq_ofNat_of_zero_le h0
  rw [Int.toNat_natCast]
  have hfill9 : Mine.hd.heap_39 = Mine.hd.heap_39 ∧ PySem.Challenge.rw_fe0233_01 = PySem.Challenge.rw_fe0233_01 := (by k_fill; exact ⟨rfl, rfl⟩)
  clear hfill9
  intro prog w mean mg mb dp un gd cn cs a ccd cl outer A₀ base h₀ L m news s Q E B F X N T hk hdp hun hret
  refine wpAny_call ?_
  k_dflt (refine' code_def ?k1 ?k2 ?k3 ?k4 ?k5 ?kA ?kF ?kK ?k6 ?k7 ?k8 ?k9 ?kB ?_ ?c2 ?c3 ?c4 ?c5; (case kA => exact rfl); (case kF => exact rfl); (case kK => assumption); (case k1 => k_asm); (case k2 => k_asm); (case k3 => k_asm); (case k4 => k_asm); (case k5 => k_asm); (case k6 => k_is); (case k7 => k_is); (case k8 => ktr_room); (case k9 => first | exact BindsTo.of_eq rfl | exact binds_K (by k_in) rfl (by k_is) rfl rfl rfl); (case c5 => decide); (case kB => exact locs rfl); (case c2 => exact rfl); (case c3 => exact rfl); (case c4 => exact rfl); k_whole; intro g' L' h' FG' F' N' B' X' T'; (try dsimp only); (try k_fold))
  k_steps
  all_goals unfold Stop
  rename Fr _ _ _ _ => lF
  rename News _ _ _ _ => lN
  refine wh_oct n0 lF lN rfl rfl ?_ PassesOwn.leaving
  clear lF lN
  intro k l x vs n tok u h tk hf hp F1 N1
  k_fold
  have hln : l.length ≤ 25 := by
    have h9 := octL_length n0 24 (by omega)
    have h8 := congrArg List.length hp
    rw [List.length_append] at h8
    omega
  have hvl : vs.length ≤ 25 := by rw [hf.length]; simpa [natI] using hln
  have hin : ∀ z ∈ natI l, 0 ≤ z ∧ z < 256 := by
    intro z hz
    obtain ⟨y, hy, rfl⟩ := List.mem_map.mp hz
    have := octL_in n0 y (by rw [← hp]; exact List.mem_append.mpr (.inr hy))
    omega
  k_with "in" => exact hin
  k_with "size" => first | omega | (simpa [natI] using Nat.le_trans hln (by decide))
  k_steps
  · unfold Stop
    rename News _ _ _ _ => nE
    refine oc_end hf hp (by omega) (by assumption) nE rfl rfl ?_
    intro z ha hb
    simp [kstB, ha, hb]
  · have hk0 : k = 0 := by omega
    subst hk0
    have hle : l = octL n0 := hp
    refine ret_B hret ?_ (by k_asm) (by first | k_asm | exact cb_drop (by k_asm) (by kcj_all))
    rw [toB_natI _ (by rw [hle]; exact octL_in n0), hle]
    rfl
end Mine
end

noncomputable section
open PySem PySem.W PyProof.Rows
namespace Mine
theorem freshW6 : True := by
  k_with_none
  w_top off
  trivial
local macro_rules | `(tactic| walk_at "subscriptTail") => `(tactic| (k_here; (with_reducible show wpAny _ _ (subscriptTail _ _ (Value.bytes (List.toArray _) _) (Value.int _ _)) _ _ _); (refine item_L (by k_extra "size") (by k_extra "idx") (by k_extra "idx") ?_); intro _ _))
local macro_rules | `(tactic| walk_at "subscriptTail") => `(tactic| (k_here; (with_reducible show wpAny _ _ (subscriptTail _ (Expr.Slice _ _ none _) (Value.bytes (List.toArray _) _) (Value.ref _)) _ _ _); (with_reducible rename Fr _ _ _ _ => F9); (with_reducible rename News _ _ _ _ => N9); (first
  | refine slice_to (s := ⟨_, _, _, _, _⟩) F9 N9 (by k_extra "idx") (by k_extra "size") ?_
  | refine slice_from (s := ⟨_, _, _, _, _⟩) F9 N9 (by k_extra "idx") (by k_extra "size") ?_
  | refine slice_mid (s := ⟨_, _, _, _, _⟩) F9 N9 (by k_extra "idx") (by k_extra "idx") (by k_extra "size") ?_); intro h' t' tk' F' N'; (try k_extra "cut"); (try k_sweep)))
local macro_rules | `(tactic| walk_at "binaryOp Add bytes bytes") => `(tactic| (k_here; (with_reducible show wpAny _ _ (binaryOp Operator.Add (Value.bytes (List.toArray _) _) (Value.bytes (List.toArray _) _)) _ _ _); (refine add_L (by k_extra "size") ?_); intro _ _))
local macro_rules | `(tactic| walk_at "call builtin:len") => `(tactic| (k_here; (with_reducible show wpAny _ _ (call (Value.builtin "len") [Value.bytes (List.toArray _) _]) _ _ _); (refine len_L (by k_extra "size") ?_); intro _ _))
local macro_rules | `(tactic| walk_at "call builtin:ord") => `(tactic| (k_here; (with_reducible show wpAny _ _ (call (Value.builtin "ord") [Value.bytes (List.toArray _) _]) _ _ _); (refine ord_L ?_ (by k_extra "one")); intro _ _))
local macro_rules | `(tactic| walk_at "compareOp NotEq bytes bytes") => `(tactic| (k_here; (with_reducible refine ne_L ?_)))
local macro_rules | `(tactic| walk_at "compareOp Eq bytes bytes") => `(tactic| (k_here; (with_reducible refine eq_L ?_)))
local macro_rules | `(tactic| walk_at "getMethod str") => `(tactic| (k_here; with_reducible refine meth_encode ?_))
local macro_rules | `(tactic| walk_at "getMethod bytes") => `(tactic| (k_here; with_reducible refine meth_hex ?_))
local macro_rules | `(tactic| walk_at "getMethod bytes") => `(tactic| (k_here; with_reducible refine meth_starts ?_))
local macro_rules | `(tactic| walk_at "getMethod bytes") => `(tactic| (k_here; with_reducible refine meth_join ?_))
local macro_rules | `(tactic| walk_at "call builtin:str.encode") => `(tactic| (k_here; (first | refine call_encode8 (by k_extra "ascii") (by k_extra "size") ?_ | refine call_encodeA (by k_extra "ascii") (by k_extra "size") ?_); intro _ _))
local macro_rules | `(tactic| walk_at "call builtin:bytes.hex") => `(tactic| (k_here; (refine call_hex (by k_extra "size") ?_); intro _ _))
local macro_rules | `(tactic| walk_at "call builtin:bytes.startswith") => `(tactic| (k_here; k_dflt (refine call_starts ?_); intro _))
local macro_rules | `(tactic| walk_at "call builtin:_struct.pack") => `(tactic| (k_here; (refine call_pack (by k_extra "idx") (by k_extra "idx") ?_); intro _ _))
local macro_rules | `(tactic| walk_at "call type:type") => `(tactic| (k_here; k_dflt (first | refine call_type_of (typeIs_bytes _ _ _) (by decide +kernel) ?_ | refine call_type_of (typeIs_str _ _ _) (by decide +kernel) ?_ | refine call_type_of (typeIs_int _ _ _) (by decide +kernel) ?_)))
local macro_rules | `(tactic| walk_at "compareOp Is") => `(tactic| (k_here; (with_reducible show wpAny _ _ (compareOp CmpOp.Is (Value.type _) (Value.type _)) _ _ _); (first | refine wpAny_is_self (by rfl) ?_ | refine wpAny_is_other (by rfl) (by decide) ?_)))
local macro_rules | `(tactic| walk_at "compareOp IsNot") => `(tactic| (k_here; (with_reducible show wpAny _ _ (compareOp CmpOp.IsNot (Value.type _) (Value.type _)) _ _ _); (first | refine wpAny_isNot_self (by rfl) ?_ | refine wpAny_isNot_other (by rfl) (by decide) ?_)))
local macro_rules | `(tactic| walk_at "call type:bytes") => `(tactic| (k_here; (with_reducible show wpAny _ _ (call (Value.type "bytes") [Value.ref _]) _ _ _); k_dflt (refine' make_L ?F ?N ?h ?l ?i ?r ?n ?_; (case F => k_asm); (case N => k_asm); (case h => rfl); (case l => kba_isList); (case i => kba_listInts); (case r => k_extra "in"); (case n => k_extra "size")); intro h' t' tk' F' N'; (try k_sweep)))
local macro_rules | `(tactic| passes_own) => `(tactic| exact PassesOwn.leaving)
local macro_rules | `(tactic| walk_at "binaryOp Mod str int") => `(tactic| (k_here; (with_reducible show wpAny _ _ (binaryOp Operator.Mod (Value.str _ _) (Value.int _ _)) _ _ _); (refine mod_X (by k_extra "idx") (by k_extra "hexlen") (by k_extra "log") ?_); intro _ _))
local macro_rules | `(tactic| walk_at "call builtin:len") => `(tactic| (k_here; (with_reducible show wpAny _ _ (call (Value.builtin "len") [Value.str _ _]) _ _ _); (refine len_S (by k_extra "slen") ?_); intro _ _))
local macro_rules | `(tactic| walk_at "binaryOp Add str str") => `(tactic| (k_here; (with_reducible show wpAny _ _ (binaryOp Operator.Add (Value.str _ _) (Value.str _ _)) _ _ _); (refine add_S0 (by k_extra "slen") ?_); intro _ _))
local macro_rules | `(tactic| walk_at "binaryOp BitAnd int int") => `(tactic| (k_here; (refine and_at (by k_extra "and") ?_); intro _ _))
local macro_rules | `(tactic| walk_at "call type:int") => `(tactic| (k_here; (with_reducible show wpAny _ _ (call (Value.type "int") [Value.bytes (List.toArray _) _, Value.int _ _]) _ _ _); k_dflt (refine int16_L (by k_extra "size") (by k_extra "size") ?_); intro _ _))
local macro_rules | `(tactic| walk_at "call builtin:bytes.startswith") => `(tactic| (k_here; k_dflt (refine starts_at (by k_extra "starts") ?_); intro _))
local macro_rules | `(tactic| walk_at "call builtin:bytes.join") => `(tactic| (k_here; k_dflt (refine' join_L ?F ?N ?m ?T ?c ?d ?p ?z ?_; (case F => k_asm); (case N => k_asm); (case m => k_mem); (case c => exact rfl); (case T => first | exact .inl rfl | exact .inr rfl); (case d => exact rfl); (case p => k_extra "pieces"); (case z => k_extra "size")); intro _ _))
local macro_rules | `(tactic| walk_at "eval ListComp") => `(tactic| (k_here; lcg_look; (with_reducible show wpAny _ _ (eval (Expr.ListComp _ [⟨_, Expr.Name "encoded_pieces" _, _, _⟩] _ _) _) _ _ _); k_dflt (refine ListComp_T (F₀ := by k_asm) (by rfl) (by decide) (by rfl) (by decide) (by rfl) ?_)))
local macro_rules | `(tactic| walk_at "CompTup") => `(tactic| (k_here; k_dflt (refine CompTup.ledger (by rfl) (by k_asm) (by k_asm) (by k_mem) (by first | size_fits | exact Nat.le_of_ble_eq_true rfl) ?_); intro g'; lcg_lit))
local macro_rules | `(tactic| lcg_src) => `(tactic| exact ⟨_, by k_mem, rfl, _, rfl⟩)
local macro_rules | `(tactic| walk_at "CompEnd") => `(tactic| ((with_reducible rename Fr _ _ _ _ => F9); (with_reducible rename News _ _ _ _ => N9); (with_reducible rename LCg.Off3 _ _ _ _ ∧ _ => o9); refine ⟨_, _, _, rfl, F9, N9, o9, by lcg_src, ?_⟩))
local macro_rules | `(tactic| walk_at "CompEnd") => `(tactic| ((with_reducible rename Fr _ _ _ _ => F9); (with_reducible rename News _ _ _ _ => N9); (with_reducible rename _ ∧ LCg.Off3 _ _ _ _ => o9); refine ⟨_, _, _, rfl, F9, N9, o9, by lcg_src, ?_⟩))
local macro_rules | `(tactic| walk_at "UnrEnd") => `(tactic| ((with_reducible rename Fr _ _ _ _ => F9); (with_reducible rename News _ _ _ _ => N9); (with_reducible rename _ < _ ∧ AllLt _ _ => l9); refine' UnrEnd.intro F9 N9 _ (fun p hp => hp) ?off ?_; (case off => exact fun p hp => Nat.ne_of_lt (ktn_ltOf (by exact l9) p hp))))

theorem in1 {n : Int} (h0 : 0 ≤ n) (h1 : n < 256) : ∀ z ∈ [n], 0 ≤ z ∧ z < 256 := by
  intro z hz
  rw [List.mem_singleton.mp hz]
  exact ⟨h0, h1⟩
local macro_rules | `(tactic| walk_at "call ref") => `(tactic| (k_here; k_dflt (refine' ConN (con_lawoct _ _ (by k_extra "idx") (by k_extra "big")) ?k1 ?k2 ?k3 ?k4 ?k5 ?kK ?kd ?ku ?_; (case k1 => k_asm); (case k2 => k_asm); (case k3 => k_asm); (case k4 => k_asm); (case k5 => k_asm); (case kK => first | exact rfl | assumption); (case kd => ktr_room); (case ku => ktr_units)); intro t' h' tk' F' N'; (try dsimp only); (try k_sweep)))
set_option maxRecDepth 100000 in
set_option maxHeartbeats 8000000 in
theorem con_lawlen (n : Int) (t : Tok) (h0 : 0 ≤ n) (h1 : n < 16777216) : Con 4 174 [.int n t] [] (fun t' => .bytes (lenB n.toNat).toArray t') := by
  have hfill9 : Mine.hd.heap_39 = Mine.hd.heap_39 ∧ PySem.Challenge.rw_fe0233_01 = PySem.Challenge.rw_fe0233_01 := (by k_fill; exact ⟨rfl, rfl⟩)
  clear hfill9
  intro prog w mean mg mb dp un gd cn cs a ccd cl outer A₀ base h₀ L m news s Q E B F X N T hk hdp hun hret
  refine wpAny_call ?_
  k_dflt (refine' code_def ?k1 ?k2 ?k3 ?k4 ?k5 ?kA ?kF ?kK ?k6 ?k7 ?k8 ?k9 ?kB ?_ ?c2 ?c3 ?c4 ?c5; (case kA => exact rfl); (case kF => exact rfl); (case kK => assumption); (case k1 => k_asm); (case k2 => k_asm); (case k3 => k_asm); (case k4 => k_asm); (case k5 => k_asm); (case k6 => k_is); (case k7 => k_is); (case k8 => ktr_room); (case k9 => first | exact BindsTo.of_eq rfl | exact binds_K (by k_in) rfl (by k_is) rfl rfl rfl); (case c5 => decide); (case kB => exact locs rfl); (case c2 => exact rfl); (case c3 => exact rfl); (case c4 => exact rfl); k_whole; intro g' L' h' FG' F' N' B' X' T'; (try dsimp only); (try k_fold))
  have ho := octL_length n.toNat 2 (by omega)
  have hob : (octB n.toNat).length ≤ 3 := by rw [octB_length]; omega
  k_with "idx" => first | with_reducible assumption | omega
  k_with "big" => exact Int.lt_of_lt_of_le h1 (by decide)
  k_with "in" => exact in1 (by omega) (by omega)
  k_with "size" => first | omega | decide | (simp only [List.length_cons, List.length_append, List.length_nil, toB, List.length_map]; omega)
  k_steps
  all_goals
    refine ret_B hret ?_ (by k_asm) (by first | k_asm | exact cb_drop (by k_asm) (by kcj_all))
    unfold lenB
  · rw [if_pos (by omega)]
    rfl
  · rw [if_neg (by omega)]
    show (128 + ((octB n.toNat).length : Int)).toNat.toUInt8 :: octB n.toNat = _
    rw [show (128 + ((octB n.toNat).length : Int)).toNat = 128 + (octB n.toNat).length by omega]
local macro_rules | `(tactic| walk_at "call ref") => `(tactic| (k_here; k_dflt (refine' ConN (con_lawlen _ _ (by k_extra "idx") (by k_extra "idx")) ?k1 ?k2 ?k3 ?k4 ?k5 ?kK ?kd ?ku ?_; (case k1 => k_asm); (case k2 => k_asm); (case k3 => k_asm); (case k4 => k_asm); (case k5 => k_asm); (case kK => first | exact rfl | assumption); (case kd => ktr_room); (case ku => ktr_units)); intro t' h' tk' F' N'; (try dsimp only); (try k_sweep)))
theorem getD_head (l : List UInt8) : l.getD (Int.toNat 0) 0 = l.headD 0 := by cases l <;> rfl
theorem lenB_short {k : Nat} (h : k < 128) : lenB k = [k.toUInt8] := by unfold lenB; rw [if_pos h]
theorem lawB_pos {N : Nat} (hk : (octB N).length ≤ 25) (h : ((octB N).headD 0).toNat ≤ 127) : toB [2] ++ lenB ((octB N).length : Int).toNat ++ octB N = intB N := by
  rw [Int.toNat_natCast, lenB_short (by omega), ← intB_pos h, Int.toNat_natCast]
  rfl
theorem lawB_neg {N : Nat} (hk : (octB N).length ≤ 25) (h : ¬ ((octB N).headD 0).toNat ≤ 127) : toB [2] ++ lenB ((toB [0] ++ octB N).length : Int).toNat ++ (toB [0] ++ octB N) = intB N := by
  have e : toB [0] ++ octB N = 0 :: octB N := rfl
  rw [e, Int.toNat_natCast, List.length_cons, lenB_short (by omega), ← intB_neg h, show (((octB N).length : Int) + 1).toNat = (octB N).length + 1 by omega]
  simp [toB]
set_option maxRecDepth 100000 in
set_option maxHeartbeats 8000000 in
theorem con_lawint (n : Int) (t : Tok) (h0 : 0 ≤ n) (h1 : n < 1606938044258990275541962092341162602522202993782792835301376) : Con 6 181 [.int n t] [] (fun t' => .bytes (intB n.toNat).toArray t') := by
  have hfill9 : Mine.hd.heap_39 = Mine.hd.heap_39 ∧ PySem.Challenge.rw_fe0233_01 = PySem.Challenge.rw_fe0233_01 := (by k_fill; exact ⟨rfl, rfl⟩)
  clear hfill9
  intro prog w mean mg mb dp un gd cn cs a ccd cl outer A₀ base h₀ L m news s Q E B F X N T hk hdp hun hret
  refine wpAny_call ?_
  k_dflt (refine' code_def ?k1 ?k2 ?k3 ?k4 ?k5 ?kA ?kF ?kK ?k6 ?k7 ?k8 ?k9 ?kB ?_ ?c2 ?c3 ?c4 ?c5; (case kA => exact rfl); (case kF => exact rfl); (case kK => assumption); (case k1 => k_asm); (case k2 => k_asm); (case k3 => k_asm); (case k4 => k_asm); (case k5 => k_asm); (case k6 => k_is); (case k7 => k_is); (case k8 => ktr_room); (case k9 => first | exact BindsTo.of_eq rfl | exact binds_K (by k_in) rfl (by k_is) rfl rfl rfl); (case c5 => decide); (case kB => exact locs rfl); (case c2 => exact rfl); (case c3 => exact rfl); (case c4 => exact rfl); k_whole; intro g' L' h' FG' F' N' B' X' T'; (try dsimp only); (try k_fold))
  have ho := octL_length n.toNat 24 (by omega)
  have hob : (octB n.toNat).length ≤ 25 := by rw [octB_length]; omega
  have hpos : 0 < (octB n.toNat).length := List.length_pos_iff.mpr (octB_ne n.toNat)
  have hl3 : ∀ k : Nat, k < 128 → (lenB k).length = 1 := fun k hk => by rw [lenB_short hk]; rfl
  k_with "big" => exact h1
  have hbig := h1
  clear h1
  k_with "idx" => first | with_reducible assumption | omega | (simp only [List.length_cons, List.length_append, List.length_nil, toB, List.length_map]; omega)
  k_with "big" => exact hbig
  k_with "in" => exact in1 (by omega) (by omega)
  k_with "size" => first | omega | decide | (simp only [List.length_cons, List.length_append, List.length_nil, toB, List.length_map]; omega) | (simp only [List.length_cons, List.length_append, List.length_nil, toB, List.length_map]; rw [hl3 _ (by omega)]; omega)
  k_steps
  all_goals
    refine ret_B hret ?_ (by k_asm) (by first | k_asm | exact cb_drop (by k_asm) (by kcj_all))
  · rename (127 : Int) < _ => hh
    exact lawB_neg hob (by rw [getD_head] at hh; omega)
  · rename ¬ ((127 : Int) < _) => hh
    exact lawB_pos hob (by rw [getD_head] at hh; omega)
end Mine
end

noncomputable section
open PySem PySem.W PyProof.Rows
namespace Mine
theorem freshW7 : True := by
  k_with_none
  w_top off
  trivial
local macro_rules | `(tactic| walk_at "subscriptTail") => `(tactic| (k_here; (with_reducible show wpAny _ _ (subscriptTail _ _ (Value.bytes (List.toArray _) _) (Value.int _ _)) _ _ _); (refine item_L (by k_extra "size") (by k_extra "idx") (by k_extra "idx") ?_); intro _ _))
local macro_rules | `(tactic| walk_at "subscriptTail") => `(tactic| (k_here; (with_reducible show wpAny _ _ (subscriptTail _ (Expr.Slice _ _ none _) (Value.bytes (List.toArray _) _) (Value.ref _)) _ _ _); (with_reducible rename Fr _ _ _ _ => F9); (with_reducible rename News _ _ _ _ => N9); (first
  | refine slice_to (s := ⟨_, _, _, _, _⟩) F9 N9 (by k_extra "idx") (by k_extra "size") ?_
  | refine slice_from (s := ⟨_, _, _, _, _⟩) F9 N9 (by k_extra "idx") (by k_extra "size") ?_
  | refine slice_mid (s := ⟨_, _, _, _, _⟩) F9 N9 (by k_extra "idx") (by k_extra "idx") (by k_extra "size") ?_); intro h' t' tk' F' N'; (try k_extra "cut"); (try k_sweep)))
local macro_rules | `(tactic| walk_at "binaryOp Add bytes bytes") => `(tactic| (k_here; (with_reducible show wpAny _ _ (binaryOp Operator.Add (Value.bytes (List.toArray _) _) (Value.bytes (List.toArray _) _)) _ _ _); (refine add_L (by k_extra "size") ?_); intro _ _))
local macro_rules | `(tactic| walk_at "call builtin:len") => `(tactic| (k_here; (with_reducible show wpAny _ _ (call (Value.builtin "len") [Value.bytes (List.toArray _) _]) _ _ _); (refine len_L (by k_extra "size") ?_); intro _ _))
local macro_rules | `(tactic| walk_at "call builtin:ord") => `(tactic| (k_here; (with_reducible show wpAny _ _ (call (Value.builtin "ord") [Value.bytes (List.toArray _) _]) _ _ _); (refine ord_L ?_ (by k_extra "one")); intro _ _))
local macro_rules | `(tactic| walk_at "compareOp NotEq bytes bytes") => `(tactic| (k_here; (with_reducible refine ne_L ?_)))
local macro_rules | `(tactic| walk_at "compareOp Eq bytes bytes") => `(tactic| (k_here; (with_reducible refine eq_L ?_)))
local macro_rules | `(tactic| walk_at "getMethod str") => `(tactic| (k_here; with_reducible refine meth_encode ?_))
local macro_rules | `(tactic| walk_at "getMethod bytes") => `(tactic| (k_here; with_reducible refine meth_hex ?_))
local macro_rules | `(tactic| walk_at "getMethod bytes") => `(tactic| (k_here; with_reducible refine meth_starts ?_))
local macro_rules | `(tactic| walk_at "getMethod bytes") => `(tactic| (k_here; with_reducible refine meth_join ?_))
local macro_rules | `(tactic| walk_at "call builtin:str.encode") => `(tactic| (k_here; (first | refine call_encode8 (by k_extra "ascii") (by k_extra "size") ?_ | refine call_encodeA (by k_extra "ascii") (by k_extra "size") ?_); intro _ _))
local macro_rules | `(tactic| walk_at "call builtin:bytes.hex") => `(tactic| (k_here; (refine call_hex (by k_extra "size") ?_); intro _ _))
local macro_rules | `(tactic| walk_at "call builtin:bytes.startswith") => `(tactic| (k_here; k_dflt (refine call_starts ?_); intro _))
local macro_rules | `(tactic| walk_at "call builtin:_struct.pack") => `(tactic| (k_here; (refine call_pack (by k_extra "idx") (by k_extra "idx") ?_); intro _ _))
local macro_rules | `(tactic| walk_at "call type:type") => `(tactic| (k_here; k_dflt (first | refine call_type_of (typeIs_bytes _ _ _) (by decide +kernel) ?_ | refine call_type_of (typeIs_str _ _ _) (by decide +kernel) ?_ | refine call_type_of (typeIs_int _ _ _) (by decide +kernel) ?_)))
local macro_rules | `(tactic| walk_at "compareOp Is") => `(tactic| (k_here; (with_reducible show wpAny _ _ (compareOp CmpOp.Is (Value.type _) (Value.type _)) _ _ _); (first | refine wpAny_is_self (by rfl) ?_ | refine wpAny_is_other (by rfl) (by decide) ?_)))
local macro_rules | `(tactic| walk_at "compareOp IsNot") => `(tactic| (k_here; (with_reducible show wpAny _ _ (compareOp CmpOp.IsNot (Value.type _) (Value.type _)) _ _ _); (first | refine wpAny_isNot_self (by rfl) ?_ | refine wpAny_isNot_other (by rfl) (by decide) ?_)))
local macro_rules | `(tactic| walk_at "call type:bytes") => `(tactic| (k_here; (with_reducible show wpAny _ _ (call (Value.type "bytes") [Value.ref _]) _ _ _); k_dflt (refine' make_L ?F ?N ?h ?l ?i ?r ?n ?_; (case F => k_asm); (case N => k_asm); (case h => rfl); (case l => kba_isList); (case i => kba_listInts); (case r => k_extra "in"); (case n => k_extra "size")); intro h' t' tk' F' N'; (try k_sweep)))
local macro_rules | `(tactic| passes_own) => `(tactic| exact PassesOwn.leaving)
local macro_rules | `(tactic| walk_at "binaryOp Mod str int") => `(tactic| (k_here; (with_reducible show wpAny _ _ (binaryOp Operator.Mod (Value.str _ _) (Value.int _ _)) _ _ _); (refine mod_X (by k_extra "idx") (by k_extra "hexlen") (by k_extra "log") ?_); intro _ _))
local macro_rules | `(tactic| walk_at "call builtin:len") => `(tactic| (k_here; (with_reducible show wpAny _ _ (call (Value.builtin "len") [Value.str _ _]) _ _ _); (refine len_S (by k_extra "slen") ?_); intro _ _))
local macro_rules | `(tactic| walk_at "binaryOp Add str str") => `(tactic| (k_here; (with_reducible show wpAny _ _ (binaryOp Operator.Add (Value.str _ _) (Value.str _ _)) _ _ _); (refine add_S0 (by k_extra "slen") ?_); intro _ _))
local macro_rules | `(tactic| walk_at "binaryOp BitAnd int int") => `(tactic| (k_here; (refine and_at (by k_extra "and") ?_); intro _ _))
local macro_rules | `(tactic| walk_at "call type:int") => `(tactic| (k_here; (with_reducible show wpAny _ _ (call (Value.type "int") [Value.bytes (List.toArray _) _, Value.int _ _]) _ _ _); k_dflt (refine int16_L (by k_extra "size") (by k_extra "size") ?_); intro _ _))
local macro_rules | `(tactic| walk_at "call builtin:bytes.startswith") => `(tactic| (k_here; k_dflt (refine starts_at (by k_extra "starts") ?_); intro _))
local macro_rules | `(tactic| walk_at "call builtin:bytes.join") => `(tactic| (k_here; k_dflt (refine' join_L ?F ?N ?m ?T ?c ?d ?p ?z ?_; (case F => k_asm); (case N => k_asm); (case m => k_mem); (case c => exact rfl); (case T => first | exact .inl rfl | exact .inr rfl); (case d => exact rfl); (case p => k_extra "pieces"); (case z => k_extra "size")); intro _ _))
local macro_rules | `(tactic| walk_at "eval ListComp") => `(tactic| (k_here; lcg_look; (with_reducible show wpAny _ _ (eval (Expr.ListComp _ [⟨_, Expr.Name "encoded_pieces" _, _, _⟩] _ _) _) _ _ _); k_dflt (refine ListComp_T (F₀ := by k_asm) (by rfl) (by decide) (by rfl) (by decide) (by rfl) ?_)))
local macro_rules | `(tactic| walk_at "CompTup") => `(tactic| (k_here; k_dflt (refine CompTup.ledger (by rfl) (by k_asm) (by k_asm) (by k_mem) (by first | size_fits | exact Nat.le_of_ble_eq_true rfl) ?_); intro g'; lcg_lit))
local macro_rules | `(tactic| lcg_src) => `(tactic| exact ⟨_, by k_mem, rfl, _, rfl⟩)
local macro_rules | `(tactic| walk_at "CompEnd") => `(tactic| ((with_reducible rename Fr _ _ _ _ => F9); (with_reducible rename News _ _ _ _ => N9); (with_reducible rename LCg.Off3 _ _ _ _ ∧ _ => o9); refine ⟨_, _, _, rfl, F9, N9, o9, by lcg_src, ?_⟩))
local macro_rules | `(tactic| walk_at "CompEnd") => `(tactic| ((with_reducible rename Fr _ _ _ _ => F9); (with_reducible rename News _ _ _ _ => N9); (with_reducible rename _ ∧ LCg.Off3 _ _ _ _ => o9); refine ⟨_, _, _, rfl, F9, N9, o9, by lcg_src, ?_⟩))
local macro_rules | `(tactic| walk_at "UnrEnd") => `(tactic| ((with_reducible rename Fr _ _ _ _ => F9); (with_reducible rename News _ _ _ _ => N9); (with_reducible rename _ < _ ∧ AllLt _ _ => l9); refine' UnrEnd.intro F9 N9 _ (fun p hp => hp) ?off ?_; (case off => exact fun p hp => Nat.ne_of_lt (ktn_ltOf (by exact l9) p hp))))

theorem and128_lo : ∀ c : Nat, c < 128 → Builtin.bitAnd (c : Int) 128 = 0 := by decide +kernel
theorem and127_lo : ∀ c : Nat, c < 128 → Builtin.bitAnd (c : Int) 127 = (c : Int) := by decide +kernel
theorem and128_hi : ∀ c : Nat, c < 128 → Builtin.bitAnd ((128 + c : Nat) : Int) 128 = 128 := by decide +kernel
theorem and127_hi : ∀ c : Nat, c < 128 → Builtin.bitAnd ((128 + c : Nat) : Int) 127 = (c : Int) := by decide +kernel
def tupO (a b : Value) (o : Obj) : Prop := o = { cls := .type "tuple", data := .seq #[a, b] 0 }
theorem tup_lt {news : List (Addr × Obj)} {x : Addr} (h : AllLt x news) : ∀ p ∈ news, p.1 < x := ktn_ltOf h
set_option maxRecDepth 100000 in
set_option maxHeartbeats 8000000 in
theorem con_rl_short (c : UInt8) (r : List UInt8) (t : Tok) (hc : c.toNat < 128) (hz : (c :: r).length ≤ 5000) : ConT 6 160 [.bytes (c :: r).toArray t] [] (fun o => ∃ t1 t2, tupO (.int c.toNat t1) (.int 1 t2) o) := by
  have hfill9 : Mine.hd.heap_39 = Mine.hd.heap_39 ∧ PySem.Challenge.rw_fe0233_01 = PySem.Challenge.rw_fe0233_01 := (by k_fill; exact ⟨rfl, rfl⟩)
  clear hfill9
  intro prog w mean mg mb dp un gd cn cs a ccd cl outer A₀ base h₀ L m news s Q E B F X N T hk hdp hun hret
  refine wpAny_call ?_
  k_dflt (refine' code_def ?k1 ?k2 ?k3 ?k4 ?k5 ?kA ?kF ?kK ?k6 ?k7 ?k8 ?k9 ?kB ?_ ?c2 ?c3 ?c4 ?c5; (case kA => exact rfl); (case kF => exact rfl); (case kK => assumption); (case k1 => k_asm); (case k2 => k_asm); (case k3 => k_asm); (case k4 => k_asm); (case k5 => k_asm); (case k6 => k_is); (case k7 => k_is); (case k8 => ktr_room); (case k9 => first | exact BindsTo.of_eq rfl | exact binds_K (by k_in) rfl (by k_is) rfl rfl rfl); (case c5 => decide); (case kB => exact locs rfl); (case c2 => exact rfl); (case c3 => exact rfl); (case c4 => exact rfl); k_whole; intro g' L' h' FG' F' N' B' X' T'; (try dsimp only); (try k_fold))
  k_with "size" => first | omega | with_reducible assumption
  k_with "idx" => decide
  k_with "one" => rfl
  k_with "and" => first | exact and128_lo _ hc | exact and127_lo _ hc
  k_steps
  all_goals exact hret _ _ _ _ ⟨_, _, rfl⟩ (by k_asm) (by k_asm) (by first | assumption | exact tup_lt (by assumption))
local macro_rules | `(tactic| walk_at "call ref") => `(tactic| (k_here; k_dflt (refine' ConN (con_b2a _ _ (by k_extra "size")) ?k1 ?k2 ?k3 ?k4 ?k5 ?kK ?kd ?ku ?_; (case k1 => k_asm); (case k2 => k_asm); (case k3 => k_asm); (case k4 => k_asm); (case k5 => k_asm); (case kK => first | exact rfl | assumption); (case kd => ktr_room); (case ku => ktr_units)); intro t' h' tk' F' N'; (try dsimp only); (try k_sweep)))
set_option maxRecDepth 100000 in
set_option maxHeartbeats 8000000 in
theorem con_rl_long (c : UInt8) (o r : List UInt8) (t : Tok) (hc : c.toNat = 128 + o.length) (ho : 0 < o.length) (ho2 : o.length < 100) (hz : (c :: (o ++ r)).length ≤ 5000) : ConT 6 160 [.bytes (c :: (o ++ r)).toArray t] [] (fun z => ∃ t1 t2, tupO (.int (valB o : Nat) t1) (.int (1 + (o.length : Int)) t2) z) := by
  have hfill9 : Mine.hd.heap_39 = Mine.hd.heap_39 ∧ PySem.Challenge.rw_fe0233_01 = PySem.Challenge.rw_fe0233_01 := (by k_fill; exact ⟨rfl, rfl⟩)
  clear hfill9
  intro prog w mean mg mb dp un gd cn cs a ccd cl outer A₀ base h₀ L m news s Q E B F X N T hk hdp hun hret
  refine wpAny_call ?_
  k_dflt (refine' code_def ?k1 ?k2 ?k3 ?k4 ?k5 ?kA ?kF ?kK ?k6 ?k7 ?k8 ?k9 ?kB ?_ ?c2 ?c3 ?c4 ?c5; (case kA => exact rfl); (case kF => exact rfl); (case kK => assumption); (case k1 => k_asm); (case k2 => k_asm); (case k3 => k_asm); (case k4 => k_asm); (case k5 => k_asm); (case k6 => k_is); (case k7 => k_is); (case k8 => ktr_room); (case k9 => first | exact BindsTo.of_eq rfl | exact binds_K (by k_in) rfl (by k_is) rfl rfl rfl); (case c5 => decide); (case kB => exact locs rfl); (case c2 => exact rfl); (case c3 => exact rfl); (case c4 => exact rfl); k_whole; intro g' L' h' FG' F' N' B' X' T'; (try dsimp only); (try k_fold))
  have ha1 : Builtin.bitAnd ((c.toNat : Nat) : Int) 128 = 128 := by rw [hc]; exact and128_hi _ (by omega)
  have ha2 : Builtin.bitAnd ((c.toNat : Nat) : Int) 127 = (o.length : Int) := by rw [hc]; exact and127_hi _ (by omega)
  have hcut : ((c :: (o ++ r)).drop (Int.toNat 1)).take ((1 + (o.length : Int)).toNat - Int.toNat 1) = o := by
    show (o ++ r).take ((1 + (o.length : Int)).toNat - 1) = o
    rw [show (1 + (o.length : Int)).toNat - 1 = o.length by omega, List.take_left]
  have hlen : (c :: (o ++ r)).length = 1 + o.length + r.length := by simp only [List.length_cons, List.length_append]; omega
  k_with "cut" => rw [hcut]
  k_with "size" => first | omega | with_reducible assumption
  k_with "idx" => first | decide | omega
  k_with "one" => rfl
  k_with "and" => first | exact ha1 | exact ha2
  k_steps
  all_goals exact hret _ _ _ _ ⟨_, _, rfl⟩ (by k_asm) (by k_asm) (by first | assumption | exact tup_lt (by assumption))
theorem con_rl {l r : List UInt8} {k : Nat} (e : l = lenB k ++ r) (hk : k < 16777216) (hz : l.length ≤ 5000) (t : Tok) : ConT 6 160 [.bytes l.toArray t] [] (fun o => ∃ t1 t2, tupO (.int (k : Int) t1) (.int ((lenB k).length : Int) t2) o) := by
  subst e
  by_cases h : k < 128
  · rw [lenB_short h] at hz ⊢
    have := con_rl_short k.toUInt8 r t (by rw [toNat_of (by omega)]; exact h) hz
    rw [toNat_of (by omega)] at this
    exact this
  · have e : lenB k = (128 + (octB k).length).toUInt8 :: octB k := by unfold lenB; rw [if_neg h]
    have ho := octL_length k 2 (by omega)
    have hob : (octB k).length ≤ 3 := by rw [octB_length]; omega
    have hpos : 0 < (octB k).length := List.length_pos_iff.mpr (octB_ne k)
    rw [e] at hz ⊢
    have := con_rl_long (128 + (octB k).length).toUInt8 (octB k) r t (toNat_of (by omega)) hpos (by omega) hz
    rw [octB_val] at this
    have e2 : (((128 + (octB k).length).toUInt8 :: octB k).length : Int) = 1 + ((octB k).length : Int) := by rw [List.length_cons]; omega
    rw [e2]
    exact this
end Mine
end

noncomputable section
open PySem PySem.W PyProof.Rows
namespace Mine
theorem freshW8 : True := by
  k_with_none
  w_top off
  trivial
local macro_rules | `(tactic| walk_at "subscriptTail") => `(tactic| (k_here; (with_reducible show wpAny _ _ (subscriptTail _ _ (Value.bytes (List.toArray _) _) (Value.int _ _)) _ _ _); (refine item_L (by k_extra "size") (by k_extra "idx") (by k_extra "idx") ?_); intro _ _))
local macro_rules | `(tactic| walk_at "subscriptTail") => `(tactic| (k_here; (with_reducible show wpAny _ _ (subscriptTail _ (Expr.Slice _ _ none _) (Value.bytes (List.toArray _) _) (Value.ref _)) _ _ _); (with_reducible rename Fr _ _ _ _ => F9); (with_reducible rename News _ _ _ _ => N9); (first
  | refine slice_to (s := ⟨_, _, _, _, _⟩) F9 N9 (by k_extra "idx") (by k_extra "size") ?_
  | refine slice_from (s := ⟨_, _, _, _, _⟩) F9 N9 (by k_extra "idx") (by k_extra "size") ?_
  | refine slice_mid (s := ⟨_, _, _, _, _⟩) F9 N9 (by k_extra "idx") (by k_extra "idx") (by k_extra "size") ?_); intro h' t' tk' F' N'; (try k_extra "cut"); (try k_sweep)))
local macro_rules | `(tactic| walk_at "binaryOp Add bytes bytes") => `(tactic| (k_here; (with_reducible show wpAny _ _ (binaryOp Operator.Add (Value.bytes (List.toArray _) _) (Value.bytes (List.toArray _) _)) _ _ _); (refine add_L (by k_extra "size") ?_); intro _ _))
local macro_rules | `(tactic| walk_at "call builtin:len") => `(tactic| (k_here; (with_reducible show wpAny _ _ (call (Value.builtin "len") [Value.bytes (List.toArray _) _]) _ _ _); (refine len_L (by k_extra "size") ?_); intro _ _))
local macro_rules | `(tactic| walk_at "call builtin:ord") => `(tactic| (k_here; (with_reducible show wpAny _ _ (call (Value.builtin "ord") [Value.bytes (List.toArray _) _]) _ _ _); (refine ord_L ?_ (by k_extra "one")); intro _ _))
local macro_rules | `(tactic| walk_at "compareOp NotEq bytes bytes") => `(tactic| (k_here; (with_reducible refine ne_L ?_)))
local macro_rules | `(tactic| walk_at "compareOp Eq bytes bytes") => `(tactic| (k_here; (with_reducible refine eq_L ?_)))
local macro_rules | `(tactic| walk_at "getMethod str") => `(tactic| (k_here; with_reducible refine meth_encode ?_))
local macro_rules | `(tactic| walk_at "getMethod bytes") => `(tactic| (k_here; with_reducible refine meth_hex ?_))
local macro_rules | `(tactic| walk_at "getMethod bytes") => `(tactic| (k_here; with_reducible refine meth_starts ?_))
local macro_rules | `(tactic| walk_at "getMethod bytes") => `(tactic| (k_here; with_reducible refine meth_join ?_))
local macro_rules | `(tactic| walk_at "call builtin:str.encode") => `(tactic| (k_here; (first | refine call_encode8 (by k_extra "ascii") (by k_extra "size") ?_ | refine call_encodeA (by k_extra "ascii") (by k_extra "size") ?_); intro _ _))
local macro_rules | `(tactic| walk_at "call builtin:bytes.hex") => `(tactic| (k_here; (refine call_hex (by k_extra "size") ?_); intro _ _))
local macro_rules | `(tactic| walk_at "call builtin:bytes.startswith") => `(tactic| (k_here; k_dflt (refine call_starts ?_); intro _))
local macro_rules | `(tactic| walk_at "call builtin:_struct.pack") => `(tactic| (k_here; (refine call_pack (by k_extra "idx") (by k_extra "idx") ?_); intro _ _))
local macro_rules | `(tactic| walk_at "call type:type") => `(tactic| (k_here; k_dflt (first | refine call_type_of (typeIs_bytes _ _ _) (by decide +kernel) ?_ | refine call_type_of (typeIs_str _ _ _) (by decide +kernel) ?_ | refine call_type_of (typeIs_int _ _ _) (by decide +kernel) ?_)))
local macro_rules | `(tactic| walk_at "compareOp Is") => `(tactic| (k_here; (with_reducible show wpAny _ _ (compareOp CmpOp.Is (Value.type _) (Value.type _)) _ _ _); (first | refine wpAny_is_self (by rfl) ?_ | refine wpAny_is_other (by rfl) (by decide) ?_)))
local macro_rules | `(tactic| walk_at "compareOp IsNot") => `(tactic| (k_here; (with_reducible show wpAny _ _ (compareOp CmpOp.IsNot (Value.type _) (Value.type _)) _ _ _); (first | refine wpAny_isNot_self (by rfl) ?_ | refine wpAny_isNot_other (by rfl) (by decide) ?_)))
local macro_rules | `(tactic| walk_at "call type:bytes") => `(tactic| (k_here; (with_reducible show wpAny _ _ (call (Value.type "bytes") [Value.ref _]) _ _ _); k_dflt (refine' make_L ?F ?N ?h ?l ?i ?r ?n ?_; (case F => k_asm); (case N => k_asm); (case h => rfl); (case l => kba_isList); (case i => kba_listInts); (case r => k_extra "in"); (case n => k_extra "size")); intro h' t' tk' F' N'; (try k_sweep)))
local macro_rules | `(tactic| passes_own) => `(tactic| exact PassesOwn.leaving)
local macro_rules | `(tactic| walk_at "binaryOp Mod str int") => `(tactic| (k_here; (with_reducible show wpAny _ _ (binaryOp Operator.Mod (Value.str _ _) (Value.int _ _)) _ _ _); (refine mod_X (by k_extra "idx") (by k_extra "hexlen") (by k_extra "log") ?_); intro _ _))
local macro_rules | `(tactic| walk_at "call builtin:len") => `(tactic| (k_here; (with_reducible show wpAny _ _ (call (Value.builtin "len") [Value.str _ _]) _ _ _); (refine len_S (by k_extra "slen") ?_); intro _ _))
local macro_rules | `(tactic| walk_at "binaryOp Add str str") => `(tactic| (k_here; (with_reducible show wpAny _ _ (binaryOp Operator.Add (Value.str _ _) (Value.str _ _)) _ _ _); (refine add_S0 (by k_extra "slen") ?_); intro _ _))
local macro_rules | `(tactic| walk_at "binaryOp BitAnd int int") => `(tactic| (k_here; (refine and_at (by k_extra "and") ?_); intro _ _))
local macro_rules | `(tactic| walk_at "call type:int") => `(tactic| (k_here; (with_reducible show wpAny _ _ (call (Value.type "int") [Value.bytes (List.toArray _) _, Value.int _ _]) _ _ _); k_dflt (refine int16_L (by k_extra "size") (by k_extra "size") ?_); intro _ _))
local macro_rules | `(tactic| walk_at "call builtin:bytes.startswith") => `(tactic| (k_here; k_dflt (refine starts_at (by k_extra "starts") ?_); intro _))
local macro_rules | `(tactic| walk_at "call builtin:bytes.join") => `(tactic| (k_here; k_dflt (refine' join_L ?F ?N ?m ?T ?c ?d ?p ?z ?_; (case F => k_asm); (case N => k_asm); (case m => k_mem); (case c => exact rfl); (case T => first | exact .inl rfl | exact .inr rfl); (case d => exact rfl); (case p => k_extra "pieces"); (case z => k_extra "size")); intro _ _))
local macro_rules | `(tactic| walk_at "eval ListComp") => `(tactic| (k_here; lcg_look; (with_reducible show wpAny _ _ (eval (Expr.ListComp _ [⟨_, Expr.Name "encoded_pieces" _, _, _⟩] _ _) _) _ _ _); k_dflt (refine ListComp_T (F₀ := by k_asm) (by rfl) (by decide) (by rfl) (by decide) (by rfl) ?_)))
local macro_rules | `(tactic| walk_at "CompTup") => `(tactic| (k_here; k_dflt (refine CompTup.ledger (by rfl) (by k_asm) (by k_asm) (by k_mem) (by first | size_fits | exact Nat.le_of_ble_eq_true rfl) ?_); intro g'; lcg_lit))
local macro_rules | `(tactic| lcg_src) => `(tactic| exact ⟨_, by k_mem, rfl, _, rfl⟩)
local macro_rules | `(tactic| walk_at "CompEnd") => `(tactic| ((with_reducible rename Fr _ _ _ _ => F9); (with_reducible rename News _ _ _ _ => N9); (with_reducible rename LCg.Off3 _ _ _ _ ∧ _ => o9); refine ⟨_, _, _, rfl, F9, N9, o9, by lcg_src, ?_⟩))
local macro_rules | `(tactic| walk_at "CompEnd") => `(tactic| ((with_reducible rename Fr _ _ _ _ => F9); (with_reducible rename News _ _ _ _ => N9); (with_reducible rename _ ∧ LCg.Off3 _ _ _ _ => o9); refine ⟨_, _, _, rfl, F9, N9, o9, by lcg_src, ?_⟩))
local macro_rules | `(tactic| walk_at "UnrEnd") => `(tactic| ((with_reducible rename Fr _ _ _ _ => F9); (with_reducible rename News _ _ _ _ => N9); (with_reducible rename _ < _ ∧ AllLt _ _ => l9); refine' UnrEnd.intro F9 N9 _ (fun p hp => hp) ?off ?_; (case off => exact fun p hp => Nat.ne_of_lt (ktn_ltOf (by exact l9) p hp))))

theorem tup_eq {a a' : Int} {t : Tok} {b : Value} (e : a = a') : tupO (.int a' t) b { cls := .type "tuple", data := .seq #[.int a t, b] 0 } := by
  subst e
  rfl
theorem shl_eq (x : Int) (n : Nat) : x - 1 * 2 ^ (8 * (n : Int)).toNat = x - 256 ^ n := by
  rw [show (8 * (n : Int)).toNat = 8 * n by omega, Int.one_mul, Int.pow_mul]
  rfl
local macro_rules | `(tactic| walk_at "call ref") => `(tactic| (k_here; k_dflt (refine' ConN (con_b2a _ _ (by k_extra "size")) ?k1 ?k2 ?k3 ?k4 ?k5 ?kK ?kd ?ku ?_; (case k1 => k_asm); (case k2 => k_asm); (case k3 => k_asm); (case k4 => k_asm); (case k5 => k_asm); (case kK => first | exact rfl | assumption); (case kd => ktr_room); (case ku => ktr_units)); intro t' h' tk' F' N'; (try dsimp only); (try k_sweep)))
local macro_rules | `(tactic| walk_at "call ref") => `(tactic| (k_here; k_dflt (refine' ConTN (con_rl_short _ _ _ (by k_extra "short") (by k_extra "size")) ?k1 ?k2 ?k3 ?k4 ?k5 ?kK ?kd ?ku ?_; (case k1 => k_asm); (case k2 => k_asm); (case k3 => k_asm); (case k4 => k_asm); (case k5 => k_asm); (case kK => first | exact rfl | assumption); (case kd => ktr_room); (case ku => ktr_units)); intro x' o' h' tk' hR' F' N' l'; (obtain ⟨t1', t2', hR'⟩ := hR'); (unfold tupO at hR'); (subst hR'); (try k_lt l'); (try dsimp only); (try k_sweep)))
set_option maxRecDepth 100000 in
set_option maxHeartbeats 8000000 in
theorem con_remint (k : UInt8) (o r : List UInt8) (t : Tok) (hkl : k.toNat = o.length) (ho : 0 < o.length) (ho2 : o.length < 100) (hz : (2 :: k :: (o ++ r)).length ≤ 5000) : ConT 8 146 [.bytes (2 :: k :: (o ++ r)).toArray t] [] (fun z => ∃ t1 t2, tupO (.int (if 128 ≤ (o.headD 0).toNat then (valB o : Int) - 256 ^ o.length else (valB o : Int)) t1) (.bytes r.toArray t2) z) := by
  have hfill9 : Mine.hd.heap_39 = Mine.hd.heap_39 ∧ PySem.Challenge.rw_fe0233_01 = PySem.Challenge.rw_fe0233_01 := (by k_fill; exact ⟨rfl, rfl⟩)
  clear hfill9
  intro prog w mean mg mb dp un gd cn cs a ccd cl outer A₀ base h₀ L m news s Q E B F X N T hk hdp hun hret
  refine wpAny_call ?_
  k_dflt (refine' code_def ?k1 ?k2 ?k3 ?k4 ?k5 ?kA ?kF ?kK ?k6 ?k7 ?k8 ?k9 ?kB ?_ ?c2 ?c3 ?c4 ?c5; (case kA => exact rfl); (case kF => exact rfl); (case kK => assumption); (case k1 => k_asm); (case k2 => k_asm); (case k3 => k_asm); (case k4 => k_asm); (case k5 => k_asm); (case k6 => k_is); (case k7 => k_is); (case k8 => ktr_room); (case k9 => first | exact BindsTo.of_eq rfl | exact binds_K (by k_in) rfl (by k_is) rfl rfl rfl); (case c5 => decide); (case kB => exact locs rfl); (case c2 => exact rfl); (case c3 => exact rfl); (case c4 => exact rfl); k_whole; intro g' L' h' FG' F' N' B' X' T'; (try dsimp only); (try k_fold))
  have hcut1 : (2 :: k :: (o ++ r)).drop (Int.toNat 1) = k :: (o ++ r) := rfl
  have hlen : (2 :: k :: (o ++ r)).length = 2 + o.length + r.length := by simp only [List.length_cons, List.length_append]; omega
  have hlen2 : (k :: (o ++ r)).length = 1 + o.length + r.length := by simp only [List.length_cons, List.length_append]; omega
  have hcut2 : ((2 :: k :: (o ++ r)).drop ((1 : Int) + 1).toNat).take (((1 : Int) + 1 + (k.toNat : Int)).toNat - ((1 : Int) + 1).toNat) = o := by
    show (o ++ r).take (((1 : Int) + 1 + (k.toNat : Int)).toNat - 2) = o
    rw [show ((1 : Int) + 1 + (k.toNat : Int)).toNat - 2 = o.length by omega, List.take_left]
  have hcut3 : (2 :: k :: (o ++ r)).drop ((1 : Int) + 1 + (k.toNat : Int)).toNat = r := by
    rw [show ((1 : Int) + 1 + (k.toNat : Int)).toNat = o.length + 1 + 1 by omega]
    show (o ++ r).drop o.length = r
    rw [List.drop_left]
  have hone := take_one (l := o) (List.length_pos_iff.mp ho)
  k_with "cut" => first | rw [hcut1] | rw [hcut2] | rw [hcut3]
  k_with "short" => omega
  k_with "starts" => exact (show _ = true from rfl)
  k_with "size" => first | omega | with_reducible assumption
  k_with "idx" => first | decide | omega
  k_with "one" => exact hone
  k_steps
  all_goals
    refine hret _ _ _ _ ⟨_, _, tup_eq ?_⟩ (by k_asm) (by first | k_asm | exact cb_drop (by k_asm) (by kcj_all)) (by first | assumption | exact tup_lt (by assumption) | exact tup_lt (And.right ‹_ ∧ AllLt _ news›))
  · rw [if_pos (by omega), hkl, shl_eq]
  · rw [if_neg (by omega)]
set_option maxRecDepth 100000 in
set_option maxHeartbeats 8000000 in
theorem con_remint_b (k : UInt8) (o r : List UInt8) (t : Tok) (hkl : k.toNat = o.length) (ho : 0 < o.length) (ho2 : o.length < 100) (hz : (2 :: k :: (o ++ r)).length ≤ 5000) : ConT 8 146 [.bytes (2 :: k :: (o ++ r)).toArray t] [(Str.ofString "use_broken_open_ssl_mechanism", .bool true)] (fun z => ∃ t1 t2, tupO (.int (valB o : Int) t1) (.bytes r.toArray t2) z) := by
  have hfill9 : Mine.hd.heap_39 = Mine.hd.heap_39 ∧ PySem.Challenge.rw_fe0233_01 = PySem.Challenge.rw_fe0233_01 := (by k_fill; exact ⟨rfl, rfl⟩)
  clear hfill9
  intro prog w mean mg mb dp un gd cn cs a ccd cl outer A₀ base h₀ L m news s Q E B F X N T hk hdp hun hret
  refine wpAny_call ?_
  k_dflt (refine' code_def ?k1 ?k2 ?k3 ?k4 ?k5 ?kA ?kF ?kK ?k6 ?k7 ?k8 ?k9 ?kB ?_ ?c2 ?c3 ?c4 ?c5; (case kA => exact rfl); (case kF => exact rfl); (case kK => assumption); (case k1 => k_asm); (case k2 => k_asm); (case k3 => k_asm); (case k4 => k_asm); (case k5 => k_asm); (case k6 => k_is); (case k7 => k_is); (case k8 => ktr_room); (case k9 => first | exact BindsTo.of_eq rfl | exact binds_K (by k_in) rfl (by k_is) rfl rfl rfl); (case c5 => decide); (case kB => exact locs rfl); (case c2 => exact rfl); (case c3 => exact rfl); (case c4 => exact rfl); k_whole; intro g' L' h' FG' F' N' B' X' T'; (try dsimp only); (try k_fold))
  have hcut1 : (2 :: k :: (o ++ r)).drop (Int.toNat 1) = k :: (o ++ r) := rfl
  have hlen : (2 :: k :: (o ++ r)).length = 2 + o.length + r.length := by simp only [List.length_cons, List.length_append]; omega
  have hlen2 : (k :: (o ++ r)).length = 1 + o.length + r.length := by simp only [List.length_cons, List.length_append]; omega
  have hcut2 : ((2 :: k :: (o ++ r)).drop ((1 : Int) + 1).toNat).take (((1 : Int) + 1 + (k.toNat : Int)).toNat - ((1 : Int) + 1).toNat) = o := by
    show (o ++ r).take (((1 : Int) + 1 + (k.toNat : Int)).toNat - 2) = o
    rw [show ((1 : Int) + 1 + (k.toNat : Int)).toNat - 2 = o.length by omega, List.take_left]
  have hcut3 : (2 :: k :: (o ++ r)).drop ((1 : Int) + 1 + (k.toNat : Int)).toNat = r := by
    rw [show ((1 : Int) + 1 + (k.toNat : Int)).toNat = o.length + 1 + 1 by omega]
    show (o ++ r).drop o.length = r
    rw [List.drop_left]
  have hone := take_one (l := o) (List.length_pos_iff.mp ho)
  k_with "cut" => first | rw [hcut1] | rw [hcut2] | rw [hcut3]
  k_with "short" => omega
  k_with "starts" => exact (show _ = true from rfl)
  k_with "size" => first | omega | with_reducible assumption
  k_with "idx" => first | decide | omega
  k_with "one" => exact hone
  k_steps
  all_goals
    refine hret _ _ _ _ ⟨_, _, tup_eq rfl⟩ (by k_asm) (by first | k_asm | exact cb_drop (by k_asm) (by kcj_all)) (by first | assumption | exact tup_lt (by assumption) | exact tup_lt (And.right ‹_ ∧ AllLt _ news›))
end Mine
end

noncomputable section
open PySem PySem.W PyProof.Rows
namespace Mine
theorem freshW9 : True := by
  k_with_none
  w_top off
  trivial
local macro_rules | `(tactic| walk_at "subscriptTail") => `(tactic| (k_here; (with_reducible show wpAny _ _ (subscriptTail _ _ (Value.bytes (List.toArray _) _) (Value.int _ _)) _ _ _); (refine item_L (by k_extra "size") (by k_extra "idx") (by k_extra "idx") ?_); intro _ _))
local macro_rules | `(tactic| walk_at "subscriptTail") => `(tactic| (k_here; (with_reducible show wpAny _ _ (subscriptTail _ (Expr.Slice _ _ none _) (Value.bytes (List.toArray _) _) (Value.ref _)) _ _ _); (with_reducible rename Fr _ _ _ _ => F9); (with_reducible rename News _ _ _ _ => N9); (first
  | refine slice_to (s := ⟨_, _, _, _, _⟩) F9 N9 (by k_extra "idx") (by k_extra "size") ?_
  | refine slice_from (s := ⟨_, _, _, _, _⟩) F9 N9 (by k_extra "idx") (by k_extra "size") ?_
  | refine slice_mid (s := ⟨_, _, _, _, _⟩) F9 N9 (by k_extra "idx") (by k_extra "idx") (by k_extra "size") ?_); intro h' t' tk' F' N'; (try k_extra "cut"); (try k_sweep)))
local macro_rules | `(tactic| walk_at "binaryOp Add bytes bytes") => `(tactic| (k_here; (with_reducible show wpAny _ _ (binaryOp Operator.Add (Value.bytes (List.toArray _) _) (Value.bytes (List.toArray _) _)) _ _ _); (refine add_L (by k_extra "size") ?_); intro _ _))
local macro_rules | `(tactic| walk_at "call builtin:len") => `(tactic| (k_here; (with_reducible show wpAny _ _ (call (Value.builtin "len") [Value.bytes (List.toArray _) _]) _ _ _); (refine len_L (by k_extra "size") ?_); intro _ _))
local macro_rules | `(tactic| walk_at "call builtin:ord") => `(tactic| (k_here; (with_reducible show wpAny _ _ (call (Value.builtin "ord") [Value.bytes (List.toArray _) _]) _ _ _); (refine ord_L ?_ (by k_extra "one")); intro _ _))
local macro_rules | `(tactic| walk_at "compareOp NotEq bytes bytes") => `(tactic| (k_here; (with_reducible refine ne_L ?_)))
local macro_rules | `(tactic| walk_at "compareOp Eq bytes bytes") => `(tactic| (k_here; (with_reducible refine eq_L ?_)))
local macro_rules | `(tactic| walk_at "getMethod str") => `(tactic| (k_here; with_reducible refine meth_encode ?_))
local macro_rules | `(tactic| walk_at "getMethod bytes") => `(tactic| (k_here; with_reducible refine meth_hex ?_))
local macro_rules | `(tactic| walk_at "getMethod bytes") => `(tactic| (k_here; with_reducible refine meth_starts ?_))
local macro_rules | `(tactic| walk_at "getMethod bytes") => `(tactic| (k_here; with_reducible refine meth_join ?_))
local macro_rules | `(tactic| walk_at "call builtin:str.encode") => `(tactic| (k_here; (first | refine call_encode8 (by k_extra "ascii") (by k_extra "size") ?_ | refine call_encodeA (by k_extra "ascii") (by k_extra "size") ?_); intro _ _))
local macro_rules | `(tactic| walk_at "call builtin:bytes.hex") => `(tactic| (k_here; (refine call_hex (by k_extra "size") ?_); intro _ _))
local macro_rules | `(tactic| walk_at "call builtin:bytes.startswith") => `(tactic| (k_here; k_dflt (refine call_starts ?_); intro _))
local macro_rules | `(tactic| walk_at "call builtin:_struct.pack") => `(tactic| (k_here; (refine call_pack (by k_extra "idx") (by k_extra "idx") ?_); intro _ _))
local macro_rules | `(tactic| walk_at "call type:type") => `(tactic| (k_here; k_dflt (first | refine call_type_of (typeIs_bytes _ _ _) (by decide +kernel) ?_ | refine call_type_of (typeIs_str _ _ _) (by decide +kernel) ?_ | refine call_type_of (typeIs_int _ _ _) (by decide +kernel) ?_)))
local macro_rules | `(tactic| walk_at "compareOp Is") => `(tactic| (k_here; (with_reducible show wpAny _ _ (compareOp CmpOp.Is (Value.type _) (Value.type _)) _ _ _); (first | refine wpAny_is_self (by rfl) ?_ | refine wpAny_is_other (by rfl) (by decide) ?_)))
local macro_rules | `(tactic| walk_at "compareOp IsNot") => `(tactic| (k_here; (with_reducible show wpAny _ _ (compareOp CmpOp.IsNot (Value.type _) (Value.type _)) _ _ _); (first | refine wpAny_isNot_self (by rfl) ?_ | refine wpAny_isNot_other (by rfl) (by decide) ?_)))
local macro_rules | `(tactic| walk_at "call type:bytes") => `(tactic| (k_here; (with_reducible show wpAny _ _ (call (Value.type "bytes") [Value.ref _]) _ _ _); k_dflt (refine' make_L ?F ?N ?h ?l ?i ?r ?n ?_; (case F => k_asm); (case N => k_asm); (case h => rfl); (case l => kba_isList); (case i => kba_listInts); (case r => k_extra "in"); (case n => k_extra "size")); intro h' t' tk' F' N'; (try k_sweep)))
local macro_rules | `(tactic| passes_own) => `(tactic| exact PassesOwn.leaving)
local macro_rules | `(tactic| walk_at "binaryOp Mod str int") => `(tactic| (k_here; (with_reducible show wpAny _ _ (binaryOp Operator.Mod (Value.str _ _) (Value.int _ _)) _ _ _); (refine mod_X (by k_extra "idx") (by k_extra "hexlen") (by k_extra "log") ?_); intro _ _))
local macro_rules | `(tactic| walk_at "call builtin:len") => `(tactic| (k_here; (with_reducible show wpAny _ _ (call (Value.builtin "len") [Value.str _ _]) _ _ _); (refine len_S (by k_extra "slen") ?_); intro _ _))
local macro_rules | `(tactic| walk_at "binaryOp Add str str") => `(tactic| (k_here; (with_reducible show wpAny _ _ (binaryOp Operator.Add (Value.str _ _) (Value.str _ _)) _ _ _); (refine add_S0 (by k_extra "slen") ?_); intro _ _))
local macro_rules | `(tactic| walk_at "binaryOp BitAnd int int") => `(tactic| (k_here; (refine and_at (by k_extra "and") ?_); intro _ _))
local macro_rules | `(tactic| walk_at "call type:int") => `(tactic| (k_here; (with_reducible show wpAny _ _ (call (Value.type "int") [Value.bytes (List.toArray _) _, Value.int _ _]) _ _ _); k_dflt (refine int16_L (by k_extra "size") (by k_extra "size") ?_); intro _ _))
local macro_rules | `(tactic| walk_at "call builtin:bytes.startswith") => `(tactic| (k_here; k_dflt (refine starts_at (by k_extra "starts") ?_); intro _))
local macro_rules | `(tactic| walk_at "call builtin:bytes.join") => `(tactic| (k_here; k_dflt (refine' join_L ?F ?N ?m ?T ?c ?d ?p ?z ?_; (case F => k_asm); (case N => k_asm); (case m => k_mem); (case c => exact rfl); (case T => first | exact .inl rfl | exact .inr rfl); (case d => exact rfl); (case p => k_extra "pieces"); (case z => k_extra "size")); intro _ _))
local macro_rules | `(tactic| walk_at "eval ListComp") => `(tactic| (k_here; lcg_look; (with_reducible show wpAny _ _ (eval (Expr.ListComp _ [⟨_, Expr.Name "encoded_pieces" _, _, _⟩] _ _) _) _ _ _); k_dflt (refine ListComp_T (F₀ := by k_asm) (by rfl) (by decide) (by rfl) (by decide) (by rfl) ?_)))
local macro_rules | `(tactic| walk_at "CompTup") => `(tactic| (k_here; k_dflt (refine CompTup.ledger (by rfl) (by k_asm) (by k_asm) (by k_mem) (by first | size_fits | exact Nat.le_of_ble_eq_true rfl) ?_); intro g'; lcg_lit))
local macro_rules | `(tactic| lcg_src) => `(tactic| exact ⟨_, by k_mem, rfl, _, rfl⟩)
local macro_rules | `(tactic| walk_at "CompEnd") => `(tactic| ((with_reducible rename Fr _ _ _ _ => F9); (with_reducible rename News _ _ _ _ => N9); (with_reducible rename LCg.Off3 _ _ _ _ ∧ _ => o9); refine ⟨_, _, _, rfl, F9, N9, o9, by lcg_src, ?_⟩))
local macro_rules | `(tactic| walk_at "CompEnd") => `(tactic| ((with_reducible rename Fr _ _ _ _ => F9); (with_reducible rename News _ _ _ _ => N9); (with_reducible rename _ ∧ LCg.Off3 _ _ _ _ => o9); refine ⟨_, _, _, rfl, F9, N9, o9, by lcg_src, ?_⟩))
local macro_rules | `(tactic| walk_at "UnrEnd") => `(tactic| ((with_reducible rename Fr _ _ _ _ => F9); (with_reducible rename News _ _ _ _ => N9); (with_reducible rename _ < _ ∧ AllLt _ _ => l9); refine' UnrEnd.intro F9 N9 _ (fun p hp => hp) ?off ?_; (case off => exact fun p hp => Nat.ne_of_lt (ktn_ltOf (by exact l9) p hp))))

local macro_rules | `(tactic| walk_at "call ref") => `(tactic| (k_here; k_dflt (refine' ConTN (con_rl (by k_extra "rl") (by k_extra "idx") (by k_extra "size") _) ?k1 ?k2 ?k3 ?k4 ?k5 ?kK ?kd ?ku ?_; (case k1 => k_asm); (case k2 => k_asm); (case k3 => k_asm); (case k4 => k_asm); (case k5 => k_asm); (case kK => first | exact rfl | assumption); (case kd => ktr_room); (case ku => ktr_units)); intro x' o' h' tk' hR' F' N' l'; (obtain ⟨t1', t2', hR'⟩ := hR'); (unfold tupO at hR'); (subst hR'); (try k_lt l'); (try dsimp only); (try k_sweep)))
def seqB (b : List UInt8) : List UInt8 := [48] ++ lenB b.length ++ b
set_option maxRecDepth 100000 in
set_option maxHeartbeats 8000000 in
theorem con_remseq (l b r : List UInt8) (t : Tok) (hl : l = seqB b ++ r) (hz : l.length ≤ 4000) : ConT 8 138 [.bytes l.toArray t] [] (fun z => ∃ t1 t2, tupO (.bytes b.toArray t1) (.bytes r.toArray t2) z) := by
  have hfill9 : Mine.hd.heap_39 = Mine.hd.heap_39 ∧ PySem.Challenge.rw_fe0233_01 = PySem.Challenge.rw_fe0233_01 := (by k_fill; exact ⟨rfl, rfl⟩)
  clear hfill9
  intro prog w mean mg mb dp un gd cn cs a ccd cl outer A₀ base h₀ L m news s Q E B F X N T hk hdp hun hret
  refine wpAny_call ?_
  k_dflt (refine' code_def ?k1 ?k2 ?k3 ?k4 ?k5 ?kA ?kF ?kK ?k6 ?k7 ?k8 ?k9 ?kB ?_ ?c2 ?c3 ?c4 ?c5; (case kA => exact rfl); (case kF => exact rfl); (case kK => assumption); (case k1 => k_asm); (case k2 => k_asm); (case k3 => k_asm); (case k4 => k_asm); (case k5 => k_asm); (case k6 => k_is); (case k7 => k_is); (case k8 => ktr_room); (case k9 => first | exact BindsTo.of_eq rfl | exact binds_K (by k_in) rfl (by k_is) rfl rfl rfl); (case c5 => decide); (case kB => exact locs rfl); (case c2 => exact rfl); (case c3 => exact rfl); (case c4 => exact rfl); k_whole; intro g' L' h' FG' F' N' B' X' T'; (try dsimp only); (try k_fold))
  have hle : l = 48 :: (lenB b.length ++ (b ++ r)) := by rw [hl]; simp [seqB]
  have hcut1 : l.drop (Int.toNat 1) = lenB b.length ++ (b ++ r) := by rw [hle]; rfl
  have hlen : l.length = 1 + (lenB b.length).length + b.length + r.length := by rw [hle]; simp only [List.length_cons, List.length_append]; omega
  have hlen2 : (lenB b.length ++ (b ++ r)).length = (lenB b.length).length + b.length + r.length := by simp only [List.length_append]; omega
  have hd1 : l.drop ((lenB b.length).length + 1) = b ++ r := by rw [hle, List.drop_succ_cons, List.drop_left]
  have hcut2 : (l.drop ((1 : Int) + ((lenB b.length).length : Int)).toNat).take (((1 : Int) + ((lenB b.length).length : Int) + (b.length : Int)).toNat - ((1 : Int) + ((lenB b.length).length : Int)).toNat) = b := by
    rw [show ((1 : Int) + ((lenB b.length).length : Int)).toNat = (lenB b.length).length + 1 by omega, hd1, show ((1 : Int) + ((lenB b.length).length : Int) + (b.length : Int)).toNat - ((lenB b.length).length + 1) = b.length by omega, List.take_left]
  have hcut3 : l.drop ((1 : Int) + ((lenB b.length).length : Int) + (b.length : Int)).toNat = r := by
    rw [show ((1 : Int) + ((lenB b.length).length : Int) + (b.length : Int)).toNat = ((lenB b.length).length + 1) + b.length by omega, ← List.drop_drop, hd1, List.drop_left]
  have hst : (l.head? == some 48) = true := by rw [hle]; rfl
  k_with "cut" => first | rw [hcut1] | rw [hcut2] | rw [hcut3]
  k_with "rl" => rfl
  k_with "starts" => exact hst
  k_with "size" => first | omega | with_reducible assumption
  k_with "idx" => first | decide | omega
  k_steps
  all_goals exact hret _ _ _ _ ⟨_, _, rfl⟩ (by k_asm) (by first | k_asm | exact cb_drop (by k_asm) (by kcj_all)) (by first | assumption | exact tup_lt (by assumption) | exact tup_lt (And.right ‹_ ∧ AllLt _ news›))
end Mine
end

noncomputable section
open PySem PySem.W PyProof.Rows
namespace Mine
theorem freshW10 : True := by
  k_with_none
  w_top off
  trivial
local macro_rules | `(tactic| walk_at "no such key") => `(tactic| skip)
local macro_rules | `(tactic| walk_at "subscriptTail") => `(tactic| (k_here; (with_reducible show wpAny _ _ (subscriptTail _ _ (Value.bytes (List.toArray _) _) (Value.int _ _)) _ _ _); (refine item_L (by k_extra "size") (by k_extra "idx") (by k_extra "idx") ?_); intro _ _))
local macro_rules | `(tactic| walk_at "subscriptTail") => `(tactic| (k_here; (with_reducible show wpAny _ _ (subscriptTail _ (Expr.Slice _ _ none _) (Value.bytes (List.toArray _) _) (Value.ref _)) _ _ _); (with_reducible rename Fr _ _ _ _ => F9); (with_reducible rename News _ _ _ _ => N9); (first
  | refine slice_to (s := ⟨_, _, _, _, _⟩) F9 N9 (by k_extra "idx") (by k_extra "size") ?_
  | refine slice_from (s := ⟨_, _, _, _, _⟩) F9 N9 (by k_extra "idx") (by k_extra "size") ?_
  | refine slice_mid (s := ⟨_, _, _, _, _⟩) F9 N9 (by k_extra "idx") (by k_extra "idx") (by k_extra "size") ?_); intro h' t' tk' F' N'; (try k_extra "cut"); (try k_sweep)))
local macro_rules | `(tactic| walk_at "binaryOp Add bytes bytes") => `(tactic| (k_here; (with_reducible show wpAny _ _ (binaryOp Operator.Add (Value.bytes (List.toArray _) _) (Value.bytes (List.toArray _) _)) _ _ _); (refine add_L (by k_extra "size") ?_); intro _ _))
local macro_rules | `(tactic| walk_at "call builtin:len") => `(tactic| (k_here; (with_reducible show wpAny _ _ (call (Value.builtin "len") [Value.bytes (List.toArray _) _]) _ _ _); (refine len_L (by k_extra "size") ?_); intro _ _))
local macro_rules | `(tactic| walk_at "call builtin:ord") => `(tactic| (k_here; (with_reducible show wpAny _ _ (call (Value.builtin "ord") [Value.bytes (List.toArray _) _]) _ _ _); (refine ord_L ?_ (by k_extra "one")); intro _ _))
local macro_rules | `(tactic| walk_at "compareOp NotEq bytes bytes") => `(tactic| (k_here; (with_reducible refine ne_L ?_)))
local macro_rules | `(tactic| walk_at "compareOp Eq bytes bytes") => `(tactic| (k_here; (with_reducible refine eq_L ?_)))
local macro_rules | `(tactic| walk_at "getMethod str") => `(tactic| (k_here; with_reducible refine meth_encode ?_))
local macro_rules | `(tactic| walk_at "getMethod bytes") => `(tactic| (k_here; with_reducible refine meth_hex ?_))
local macro_rules | `(tactic| walk_at "getMethod bytes") => `(tactic| (k_here; with_reducible refine meth_starts ?_))
local macro_rules | `(tactic| walk_at "getMethod bytes") => `(tactic| (k_here; with_reducible refine meth_join ?_))
local macro_rules | `(tactic| walk_at "call builtin:str.encode") => `(tactic| (k_here; (first | refine call_encode8 (by k_extra "ascii") (by k_extra "size") ?_ | refine call_encodeA (by k_extra "ascii") (by k_extra "size") ?_); intro _ _))
local macro_rules | `(tactic| walk_at "call builtin:bytes.hex") => `(tactic| (k_here; (refine call_hex (by k_extra "size") ?_); intro _ _))
local macro_rules | `(tactic| walk_at "call builtin:bytes.startswith") => `(tactic| (k_here; k_dflt (refine call_starts ?_); intro _))
local macro_rules | `(tactic| walk_at "call builtin:_struct.pack") => `(tactic| (k_here; (refine call_pack (by k_extra "idx") (by k_extra "idx") ?_); intro _ _))
local macro_rules | `(tactic| walk_at "call type:type") => `(tactic| (k_here; k_dflt (first | refine call_type_of (typeIs_bytes _ _ _) (by decide +kernel) ?_ | refine call_type_of (typeIs_str _ _ _) (by decide +kernel) ?_ | refine call_type_of (typeIs_int _ _ _) (by decide +kernel) ?_)))
local macro_rules | `(tactic| walk_at "compareOp Is") => `(tactic| (k_here; (with_reducible show wpAny _ _ (compareOp CmpOp.Is (Value.type _) (Value.type _)) _ _ _); (first | refine wpAny_is_self (by rfl) ?_ | refine wpAny_is_other (by rfl) (by decide) ?_)))
local macro_rules | `(tactic| walk_at "compareOp IsNot") => `(tactic| (k_here; (with_reducible show wpAny _ _ (compareOp CmpOp.IsNot (Value.type _) (Value.type _)) _ _ _); (first | refine wpAny_isNot_self (by rfl) ?_ | refine wpAny_isNot_other (by rfl) (by decide) ?_)))
local macro_rules | `(tactic| walk_at "call type:bytes") => `(tactic| (k_here; (with_reducible show wpAny _ _ (call (Value.type "bytes") [Value.ref _]) _ _ _); k_dflt (refine' make_L ?F ?N ?h ?l ?i ?r ?n ?_; (case F => k_asm); (case N => k_asm); (case h => rfl); (case l => kba_isList); (case i => kba_listInts); (case r => k_extra "in"); (case n => k_extra "size")); intro h' t' tk' F' N'; (try k_sweep)))
local macro_rules | `(tactic| passes_own) => `(tactic| exact PassesOwn.leaving)
local macro_rules | `(tactic| walk_at "binaryOp Mod str int") => `(tactic| (k_here; (with_reducible show wpAny _ _ (binaryOp Operator.Mod (Value.str _ _) (Value.int _ _)) _ _ _); (refine mod_X (by k_extra "idx") (by k_extra "hexlen") (by k_extra "log") ?_); intro _ _))
local macro_rules | `(tactic| walk_at "call builtin:len") => `(tactic| (k_here; (with_reducible show wpAny _ _ (call (Value.builtin "len") [Value.str _ _]) _ _ _); (refine len_S (by k_extra "slen") ?_); intro _ _))
local macro_rules | `(tactic| walk_at "binaryOp Add str str") => `(tactic| (k_here; (with_reducible show wpAny _ _ (binaryOp Operator.Add (Value.str _ _) (Value.str _ _)) _ _ _); (refine add_S0 (by k_extra "slen") ?_); intro _ _))
local macro_rules | `(tactic| walk_at "binaryOp BitAnd int int") => `(tactic| (k_here; (refine and_at (by k_extra "and") ?_); intro _ _))
local macro_rules | `(tactic| walk_at "call type:int") => `(tactic| (k_here; (with_reducible show wpAny _ _ (call (Value.type "int") [Value.bytes (List.toArray _) _, Value.int _ _]) _ _ _); k_dflt (refine int16_L (by k_extra "size") (by k_extra "size") ?_); intro _ _))
local macro_rules | `(tactic| walk_at "call builtin:bytes.startswith") => `(tactic| (k_here; k_dflt (refine starts_at (by k_extra "starts") ?_); intro _))
local macro_rules | `(tactic| walk_at "call builtin:bytes.join") => `(tactic| (k_here; k_dflt (refine' join_L ?F ?N ?m ?T ?c ?d ?p ?z ?_; (case F => k_asm); (case N => k_asm); (case m => k_mem); (case c => exact rfl); (case T => first | exact .inl rfl | exact .inr rfl); (case d => exact rfl); (case p => k_extra "pieces"); (case z => k_extra "size")); intro _ _))
local macro_rules | `(tactic| walk_at "eval ListComp") => `(tactic| (k_here; lcg_look; (with_reducible show wpAny _ _ (eval (Expr.ListComp _ [⟨_, Expr.Name "encoded_pieces" _, _, _⟩] _ _) _) _ _ _); k_dflt (refine ListComp_T (F₀ := by k_asm) (by rfl) (by decide) (by rfl) (by decide) (by rfl) ?_)))
local macro_rules | `(tactic| walk_at "CompTup") => `(tactic| (k_here; k_dflt (refine CompTup.ledger (by rfl) (by k_asm) (by k_asm) (by k_mem) (by first | size_fits | exact Nat.le_of_ble_eq_true rfl) ?_); intro g'; lcg_lit))
local macro_rules | `(tactic| lcg_src) => `(tactic| exact ⟨_, by k_mem, rfl, _, rfl⟩)
local macro_rules | `(tactic| walk_at "CompEnd") => `(tactic| ((with_reducible rename Fr _ _ _ _ => F9); (with_reducible rename News _ _ _ _ => N9); (with_reducible rename LCg.Off3 _ _ _ _ ∧ _ => o9); refine ⟨_, _, _, rfl, F9, N9, o9, by lcg_src, ?_⟩))
local macro_rules | `(tactic| walk_at "CompEnd") => `(tactic| ((with_reducible rename Fr _ _ _ _ => F9); (with_reducible rename News _ _ _ _ => N9); (with_reducible rename _ ∧ LCg.Off3 _ _ _ _ => o9); refine ⟨_, _, _, rfl, F9, N9, o9, by lcg_src, ?_⟩))
local macro_rules | `(tactic| walk_at "UnrEnd") => `(tactic| ((with_reducible rename Fr _ _ _ _ => F9); (with_reducible rename News _ _ _ _ => N9); (with_reducible rename _ < _ ∧ AllLt _ _ => l9); refine' UnrEnd.intro F9 N9 _ (fun p hp => hp) ?off ?_; (case off => exact fun p hp => Nat.ne_of_lt (ktn_ltOf (by exact l9) p hp))))

theorem lenB_len {k : Nat} (h : k < 16777216) : (lenB k).length ≤ 4 := by
  unfold lenB
  split
  · simp
  · have ho := octL_length k 2 (by omega)
    rw [← octB_length] at ho
    rw [List.length_cons]; omega
theorem lenB_pos (k : Nat) : 0 < (lenB k).length := by
  unfold lenB
  split
  · simp
  · simp
theorem seqB_len {b : List UInt8} (h : b.length < 16777216) : (seqB b).length ≤ b.length + 5 := by
  have := lenB_len h
  unfold seqB
  simp only [List.length_append, List.length_cons, List.length_nil]
  omega
local macro_rules | `(tactic| walk_at "call ref") => `(tactic| (k_here; k_dflt (refine' ConN (con_enclen _ _ (by k_extra "idx") (by k_extra "idx")) ?k1 ?k2 ?k3 ?k4 ?k5 ?kK ?kd ?ku ?_; (case k1 => k_asm); (case k2 => k_asm); (case k3 => k_asm); (case k4 => k_asm); (case k5 => k_asm); (case kK => first | exact rfl | assumption); (case kd => ktr_room); (case ku => ktr_units)); intro t' h' tk' F' N'; (try dsimp only); (try k_sweep)))
set_option maxRecDepth 100000 in
set_option maxHeartbeats 8000000 in
theorem con_encseq0 : Con 8 131 [] [] (fun t' => .bytes (seqB ([])).toArray t') := by
  have hfill9 : Mine.hd.heap_39 = Mine.hd.heap_39 ∧ PySem.Challenge.rw_fe0233_01 = PySem.Challenge.rw_fe0233_01 := (by k_fill; exact ⟨rfl, rfl⟩)
  clear hfill9
  intro prog w mean mg mb dp un gd cn cs a ccd cl outer A₀ base h₀ L m news s Q E B F X N T hk hdp hun hret
  refine wpAny_call ?_
  k_dflt (refine' kp_rest ?k1 ?k2 ?k3 ?k4 ?k5 ?kA ?kF ?kK ?k6 ?k7 ?k8 ?kV ?kP ?kG ?kB ?_ ?c2 ?c3 ?c4 ?c5; (case kA => exact rfl); (case kF => exact rfl); (case kK => assumption); (case k1 => k_asm); (case k2 => k_asm); (case k3 => k_asm); (case k4 => k_asm); (case k5 => k_asm); (case k6 => k_is); (case k7 => k_is); (case k8 => ktr_room); (case kV => kl_lit); (case kP => exact rfl); (case kG => exact fun _ => rfl); (case kB => exact fun _ => locs rfl); (case c5 => decide); (case c2 => exact rfl); (case c3 => exact rfl); (case c4 => exact rfl); k_whole; intro D' g' L' h' l1 FG' F' N' B' X' T'; (try k_lt l1); (try dsimp only); (try k_fold))
  have hN : ((0:Int)).toNat = ([] : List UInt8).length := by (try simp only [List.length_append]); (try simp only [List.length_nil]); omega
  have hS : ([] : List UInt8).length ≤ 0 := by (try simp only [List.length_append]); (try simp only [List.length_nil]); omega
  have hL := lenB_len (k := ([] : List UInt8).length) (by omega)
  have hL' : (lenB ((0:Int)).toNat).length ≤ 4 := by rw [hN]; exact hL
  have hz1 : ([48] : List UInt8).length + (lenB ((0:Int)).toNat).length ≤ 100000 := Nat.le_trans (Nat.add_le_add_left hL' 1) (by decide)
  have hz2 : ([] : List (List UInt8)).flatten.length ≤ 2000 := by (try simp only [List.flatten_cons, List.length_append]); (try simp only [List.flatten_nil, List.length_nil]); omega
  have hz3 : ([48] ++ lenB ((0:Int)).toNat).length + ([] : List (List UInt8)).flatten.length ≤ 100000 := Nat.le_trans (Nat.add_le_add (show ([48] ++ lenB ((0:Int)).toNat).length ≤ 5 from Nat.succ_le_succ hL') hz2) (by decide)
  have hF : [48] ++ lenB ((0:Int)).toNat ++ ([] : List (List UInt8)).flatten = seqB ([]) := by rw [hN]; simp [seqB]
  k_with "size" => first | exact hz1 | exact Nat.le_trans hz2 (by decide) | exact hz3 | omega | with_reducible assumption
  k_with "idx" => first | decide | omega
  k_with "pieces" => exact .nil
  k_steps
  all_goals exact ret_B hret hF (by k_asm) (by first | k_asm | exact cb_drop (by k_asm) (by kcj_all))
set_option maxRecDepth 100000 in
set_option maxHeartbeats 8000000 in
theorem con_encseq2 (p1 p2 : List UInt8) (t1 t2 : Tok) (h1 : p1.length ≤ 400) (h2 : p2.length ≤ 400) : Con 8 131 [.bytes p1.toArray t1, .bytes p2.toArray t2] [] (fun t' => .bytes (seqB (p1 ++ p2)).toArray t') := by
  have hfill9 : Mine.hd.heap_39 = Mine.hd.heap_39 ∧ PySem.Challenge.rw_fe0233_01 = PySem.Challenge.rw_fe0233_01 := (by k_fill; exact ⟨rfl, rfl⟩)
  clear hfill9
  intro prog w mean mg mb dp un gd cn cs a ccd cl outer A₀ base h₀ L m news s Q E B F X N T hk hdp hun hret
  refine wpAny_call ?_
  k_dflt (refine' kp_rest ?k1 ?k2 ?k3 ?k4 ?k5 ?kA ?kF ?kK ?k6 ?k7 ?k8 ?kV ?kP ?kG ?kB ?_ ?c2 ?c3 ?c4 ?c5; (case kA => exact rfl); (case kF => exact rfl); (case kK => assumption); (case k1 => k_asm); (case k2 => k_asm); (case k3 => k_asm); (case k4 => k_asm); (case k5 => k_asm); (case k6 => k_is); (case k7 => k_is); (case k8 => ktr_room); (case kV => kl_lit); (case kP => exact rfl); (case kG => exact fun _ => rfl); (case kB => exact fun _ => locs rfl); (case c5 => decide); (case c2 => exact rfl); (case c3 => exact rfl); (case c4 => exact rfl); k_whole; intro D' g' L' h' l1 FG' F' N' B' X' T'; (try k_lt l1); (try dsimp only); (try k_fold))
  have hN : (((p1.length : Int) + ((p2.length : Int) + (0)))).toNat = (p1 ++ p2 : List UInt8).length := by (try simp only [List.length_append]); (try simp only [List.length_nil]); omega
  have hS : (p1 ++ p2 : List UInt8).length ≤ 800 := by (try simp only [List.length_append]); (try simp only [List.length_nil]); omega
  have hL := lenB_len (k := (p1 ++ p2 : List UInt8).length) (by omega)
  have hL' : (lenB (((p1.length : Int) + ((p2.length : Int) + (0)))).toNat).length ≤ 4 := by rw [hN]; exact hL
  have hz1 : ([48] : List UInt8).length + (lenB (((p1.length : Int) + ((p2.length : Int) + (0)))).toNat).length ≤ 100000 := Nat.le_trans (Nat.add_le_add_left hL' 1) (by decide)
  have hz2 : ([p1, p2] : List (List UInt8)).flatten.length ≤ 2000 := by (try simp only [List.flatten_cons, List.length_append]); (try simp only [List.flatten_nil, List.length_nil]); omega
  have hz3 : ([48] ++ lenB (((p1.length : Int) + ((p2.length : Int) + (0)))).toNat).length + ([p1, p2] : List (List UInt8)).flatten.length ≤ 100000 := Nat.le_trans (Nat.add_le_add (show ([48] ++ lenB (((p1.length : Int) + ((p2.length : Int) + (0)))).toNat).length ≤ 5 from Nat.succ_le_succ hL') hz2) (by decide)
  have hF : [48] ++ lenB (((p1.length : Int) + ((p2.length : Int) + (0)))).toNat ++ ([p1, p2] : List (List UInt8)).flatten = seqB (p1 ++ p2) := by rw [hN]; simp [seqB]
  k_with "size" => first | exact hz1 | exact Nat.le_trans hz2 (by decide) | exact hz3 | omega | with_reducible assumption
  k_with "idx" => first | decide | omega
  k_with "pieces" => exact (.cons (.cons .nil))
  k_steps
  all_goals exact ret_B hret hF (by k_asm) (by first | k_asm | exact cb_drop (by k_asm) (by kcj_all))
set_option maxRecDepth 100000 in
set_option maxHeartbeats 8000000 in
theorem con_encseq3 (p1 p2 p3 : List UInt8) (t1 t2 t3 : Tok) (h1 : p1.length ≤ 400) (h2 : p2.length ≤ 400) (h3 : p3.length ≤ 400) : Con 8 131 [.bytes p1.toArray t1, .bytes p2.toArray t2, .bytes p3.toArray t3] [] (fun t' => .bytes (seqB (p1 ++ p2 ++ p3)).toArray t') := by
  have hfill9 : Mine.hd.heap_39 = Mine.hd.heap_39 ∧ PySem.Challenge.rw_fe0233_01 = PySem.Challenge.rw_fe0233_01 := (by k_fill; exact ⟨rfl, rfl⟩)
  clear hfill9
  intro prog w mean mg mb dp un gd cn cs a ccd cl outer A₀ base h₀ L m news s Q E B F X N T hk hdp hun hret
  refine wpAny_call ?_
  k_dflt (refine' kp_rest ?k1 ?k2 ?k3 ?k4 ?k5 ?kA ?kF ?kK ?k6 ?k7 ?k8 ?kV ?kP ?kG ?kB ?_ ?c2 ?c3 ?c4 ?c5; (case kA => exact rfl); (case kF => exact rfl); (case kK => assumption); (case k1 => k_asm); (case k2 => k_asm); (case k3 => k_asm); (case k4 => k_asm); (case k5 => k_asm); (case k6 => k_is); (case k7 => k_is); (case k8 => ktr_room); (case kV => kl_lit); (case kP => exact rfl); (case kG => exact fun _ => rfl); (case kB => exact fun _ => locs rfl); (case c5 => decide); (case c2 => exact rfl); (case c3 => exact rfl); (case c4 => exact rfl); k_whole; intro D' g' L' h' l1 FG' F' N' B' X' T'; (try k_lt l1); (try dsimp only); (try k_fold))
  have hN : (((p1.length : Int) + ((p2.length : Int) + ((p3.length : Int) + (0))))).toNat = (p1 ++ p2 ++ p3 : List UInt8).length := by (try simp only [List.length_append]); (try simp only [List.length_nil]); omega
  have hS : (p1 ++ p2 ++ p3 : List UInt8).length ≤ 1200 := by (try simp only [List.length_append]); (try simp only [List.length_nil]); omega
  have hL := lenB_len (k := (p1 ++ p2 ++ p3 : List UInt8).length) (by omega)
  have hL' : (lenB (((p1.length : Int) + ((p2.length : Int) + ((p3.length : Int) + (0))))).toNat).length ≤ 4 := by rw [hN]; exact hL
  have hz1 : ([48] : List UInt8).length + (lenB (((p1.length : Int) + ((p2.length : Int) + ((p3.length : Int) + (0))))).toNat).length ≤ 100000 := Nat.le_trans (Nat.add_le_add_left hL' 1) (by decide)
  have hz2 : ([p1, p2, p3] : List (List UInt8)).flatten.length ≤ 2000 := by (try simp only [List.flatten_cons, List.length_append]); (try simp only [List.flatten_nil, List.length_nil]); omega
  have hz3 : ([48] ++ lenB (((p1.length : Int) + ((p2.length : Int) + ((p3.length : Int) + (0))))).toNat).length + ([p1, p2, p3] : List (List UInt8)).flatten.length ≤ 100000 := Nat.le_trans (Nat.add_le_add (show ([48] ++ lenB (((p1.length : Int) + ((p2.length : Int) + ((p3.length : Int) + (0))))).toNat).length ≤ 5 from Nat.succ_le_succ hL') hz2) (by decide)
  have hF : [48] ++ lenB (((p1.length : Int) + ((p2.length : Int) + ((p3.length : Int) + (0))))).toNat ++ ([p1, p2, p3] : List (List UInt8)).flatten = seqB (p1 ++ p2 ++ p3) := by rw [hN]; simp [seqB]
  k_with "size" => first | exact hz1 | exact Nat.le_trans hz2 (by decide) | exact hz3 | omega | with_reducible assumption
  k_with "idx" => first | decide | omega
  k_with "pieces" => exact (.cons (.cons (.cons .nil)))
  k_steps
  all_goals exact ret_B hret hF (by k_asm) (by first | k_asm | exact cb_drop (by k_asm) (by kcj_all))
set_option maxRecDepth 100000 in
set_option maxHeartbeats 8000000 in
theorem con_encseq4 (p1 p2 p3 p4 : List UInt8) (t1 t2 t3 t4 : Tok) (h1 : p1.length ≤ 400) (h2 : p2.length ≤ 400) (h3 : p3.length ≤ 400) (h4 : p4.length ≤ 400) : Con 8 131 [.bytes p1.toArray t1, .bytes p2.toArray t2, .bytes p3.toArray t3, .bytes p4.toArray t4] [] (fun t' => .bytes (seqB (p1 ++ p2 ++ p3 ++ p4)).toArray t') := by
  have hfill9 : Mine.hd.heap_39 = Mine.hd.heap_39 ∧ PySem.Challenge.rw_fe0233_01 = PySem.Challenge.rw_fe0233_01 := (by k_fill; exact ⟨rfl, rfl⟩)
  clear hfill9
  intro prog w mean mg mb dp un gd cn cs a ccd cl outer A₀ base h₀ L m news s Q E B F X N T hk hdp hun hret
  refine wpAny_call ?_
  k_dflt (refine' kp_rest ?k1 ?k2 ?k3 ?k4 ?k5 ?kA ?kF ?kK ?k6 ?k7 ?k8 ?kV ?kP ?kG ?kB ?_ ?c2 ?c3 ?c4 ?c5; (case kA => exact rfl); (case kF => exact rfl); (case kK => assumption); (case k1 => k_asm); (case k2 => k_asm); (case k3 => k_asm); (case k4 => k_asm); (case k5 => k_asm); (case k6 => k_is); (case k7 => k_is); (case k8 => ktr_room); (case kV => kl_lit); (case kP => exact rfl); (case kG => exact fun _ => rfl); (case kB => exact fun _ => locs rfl); (case c5 => decide); (case c2 => exact rfl); (case c3 => exact rfl); (case c4 => exact rfl); k_whole; intro D' g' L' h' l1 FG' F' N' B' X' T'; (try k_lt l1); (try dsimp only); (try k_fold))
  have hN : (((p1.length : Int) + ((p2.length : Int) + ((p3.length : Int) + ((p4.length : Int) + (0)))))).toNat = (p1 ++ p2 ++ p3 ++ p4 : List UInt8).length := by (try simp only [List.length_append]); (try simp only [List.length_nil]); omega
  have hS : (p1 ++ p2 ++ p3 ++ p4 : List UInt8).length ≤ 1600 := by (try simp only [List.length_append]); (try simp only [List.length_nil]); omega
  have hL := lenB_len (k := (p1 ++ p2 ++ p3 ++ p4 : List UInt8).length) (by omega)
  have hL' : (lenB (((p1.length : Int) + ((p2.length : Int) + ((p3.length : Int) + ((p4.length : Int) + (0)))))).toNat).length ≤ 4 := by rw [hN]; exact hL
  have hz1 : ([48] : List UInt8).length + (lenB (((p1.length : Int) + ((p2.length : Int) + ((p3.length : Int) + ((p4.length : Int) + (0)))))).toNat).length ≤ 100000 := Nat.le_trans (Nat.add_le_add_left hL' 1) (by decide)
  have hz2 : ([p1, p2, p3, p4] : List (List UInt8)).flatten.length ≤ 2000 := by (try simp only [List.flatten_cons, List.length_append]); (try simp only [List.flatten_nil, List.length_nil]); omega
  have hz3 : ([48] ++ lenB (((p1.length : Int) + ((p2.length : Int) + ((p3.length : Int) + ((p4.length : Int) + (0)))))).toNat).length + ([p1, p2, p3, p4] : List (List UInt8)).flatten.length ≤ 100000 := Nat.le_trans (Nat.add_le_add (show ([48] ++ lenB (((p1.length : Int) + ((p2.length : Int) + ((p3.length : Int) + ((p4.length : Int) + (0)))))).toNat).length ≤ 5 from Nat.succ_le_succ hL') hz2) (by decide)
  have hF : [48] ++ lenB (((p1.length : Int) + ((p2.length : Int) + ((p3.length : Int) + ((p4.length : Int) + (0)))))).toNat ++ ([p1, p2, p3, p4] : List (List UInt8)).flatten = seqB (p1 ++ p2 ++ p3 ++ p4) := by rw [hN]; simp [seqB]
  k_with "size" => first | exact hz1 | exact Nat.le_trans hz2 (by decide) | exact hz3 | omega | with_reducible assumption
  k_with "idx" => first | decide | omega
  k_with "pieces" => exact (.cons (.cons (.cons (.cons .nil))))
  k_steps
  all_goals exact ret_B hret hF (by k_asm) (by first | k_asm | exact cb_drop (by k_asm) (by kcj_all))
set_option maxRecDepth 100000 in
set_option maxHeartbeats 8000000 in
theorem con_encseq5 (p1 p2 p3 p4 p5 : List UInt8) (t1 t2 t3 t4 t5 : Tok) (h1 : p1.length ≤ 400) (h2 : p2.length ≤ 400) (h3 : p3.length ≤ 400) (h4 : p4.length ≤ 400) (h5 : p5.length ≤ 400) : Con 8 131 [.bytes p1.toArray t1, .bytes p2.toArray t2, .bytes p3.toArray t3, .bytes p4.toArray t4, .bytes p5.toArray t5] [] (fun t' => .bytes (seqB (p1 ++ p2 ++ p3 ++ p4 ++ p5)).toArray t') := by
  have hfill9 : Mine.hd.heap_39 = Mine.hd.heap_39 ∧ PySem.Challenge.rw_fe0233_01 = PySem.Challenge.rw_fe0233_01 := (by k_fill; exact ⟨rfl, rfl⟩)
  clear hfill9
  intro prog w mean mg mb dp un gd cn cs a ccd cl outer A₀ base h₀ L m news s Q E B F X N T hk hdp hun hret
  refine wpAny_call ?_
  k_dflt (refine' kp_rest ?k1 ?k2 ?k3 ?k4 ?k5 ?kA ?kF ?kK ?k6 ?k7 ?k8 ?kV ?kP ?kG ?kB ?_ ?c2 ?c3 ?c4 ?c5; (case kA => exact rfl); (case kF => exact rfl); (case kK => assumption); (case k1 => k_asm); (case k2 => k_asm); (case k3 => k_asm); (case k4 => k_asm); (case k5 => k_asm); (case k6 => k_is); (case k7 => k_is); (case k8 => ktr_room); (case kV => kl_lit); (case kP => exact rfl); (case kG => exact fun _ => rfl); (case kB => exact fun _ => locs rfl); (case c5 => decide); (case c2 => exact rfl); (case c3 => exact rfl); (case c4 => exact rfl); k_whole; intro D' g' L' h' l1 FG' F' N' B' X' T'; (try k_lt l1); (try dsimp only); (try k_fold))
  have hN : (((p1.length : Int) + ((p2.length : Int) + ((p3.length : Int) + ((p4.length : Int) + ((p5.length : Int) + (0))))))).toNat = (p1 ++ p2 ++ p3 ++ p4 ++ p5 : List UInt8).length := by (try simp only [List.length_append]); (try simp only [List.length_nil]); omega
  have hS : (p1 ++ p2 ++ p3 ++ p4 ++ p5 : List UInt8).length ≤ 2000 := by (try simp only [List.length_append]); (try simp only [List.length_nil]); omega
  have hL := lenB_len (k := (p1 ++ p2 ++ p3 ++ p4 ++ p5 : List UInt8).length) (by omega)
  have hL' : (lenB (((p1.length : Int) + ((p2.length : Int) + ((p3.length : Int) + ((p4.length : Int) + ((p5.length : Int) + (0))))))).toNat).length ≤ 4 := by rw [hN]; exact hL
  have hz1 : ([48] : List UInt8).length + (lenB (((p1.length : Int) + ((p2.length : Int) + ((p3.length : Int) + ((p4.length : Int) + ((p5.length : Int) + (0))))))).toNat).length ≤ 100000 := Nat.le_trans (Nat.add_le_add_left hL' 1) (by decide)
  have hz2 : ([p1, p2, p3, p4, p5] : List (List UInt8)).flatten.length ≤ 2000 := by (try simp only [List.flatten_cons, List.length_append]); (try simp only [List.flatten_nil, List.length_nil]); omega
  have hz3 : ([48] ++ lenB (((p1.length : Int) + ((p2.length : Int) + ((p3.length : Int) + ((p4.length : Int) + ((p5.length : Int) + (0))))))).toNat).length + ([p1, p2, p3, p4, p5] : List (List UInt8)).flatten.length ≤ 100000 := Nat.le_trans (Nat.add_le_add (show ([48] ++ lenB (((p1.length : Int) + ((p2.length : Int) + ((p3.length : Int) + ((p4.length : Int) + ((p5.length : Int) + (0))))))).toNat).length ≤ 5 from Nat.succ_le_succ hL') hz2) (by decide)
  have hF : [48] ++ lenB (((p1.length : Int) + ((p2.length : Int) + ((p3.length : Int) + ((p4.length : Int) + ((p5.length : Int) + (0))))))).toNat ++ ([p1, p2, p3, p4, p5] : List (List UInt8)).flatten = seqB (p1 ++ p2 ++ p3 ++ p4 ++ p5) := by rw [hN]; simp [seqB]
  k_with "size" => first | exact hz1 | exact Nat.le_trans hz2 (by decide) | exact hz3 | omega | with_reducible assumption
  k_with "idx" => first | decide | omega
  k_with "pieces" => exact (.cons (.cons (.cons (.cons (.cons .nil)))))
  k_steps
  all_goals exact ret_B hret hF (by k_asm) (by first | k_asm | exact cb_drop (by k_asm) (by kcj_all))
end Mine
end

noncomputable section
open PySem PySem.W PyProof.Rows
namespace Mine
theorem freshW11 : True := by
  k_with_none
  w_top off
  trivial
local macro_rules | `(tactic| walk_at "subscriptTail") => `(tactic| (k_here; (with_reducible show wpAny _ _ (subscriptTail _ _ (Value.bytes (List.toArray _) _) (Value.int _ _)) _ _ _); (refine item_L (by k_extra "size") (by k_extra "idx") (by k_extra "idx") ?_); intro _ _))
local macro_rules | `(tactic| walk_at "subscriptTail") => `(tactic| (k_here; (with_reducible show wpAny _ _ (subscriptTail _ (Expr.Slice _ _ none _) (Value.bytes (List.toArray _) _) (Value.ref _)) _ _ _); (with_reducible rename Fr _ _ _ _ => F9); (with_reducible rename News _ _ _ _ => N9); (first
  | refine slice_to (s := ⟨_, _, _, _, _⟩) F9 N9 (by k_extra "idx") (by k_extra "size") ?_
  | refine slice_from (s := ⟨_, _, _, _, _⟩) F9 N9 (by k_extra "idx") (by k_extra "size") ?_
  | refine slice_mid (s := ⟨_, _, _, _, _⟩) F9 N9 (by k_extra "idx") (by k_extra "idx") (by k_extra "size") ?_); intro h' t' tk' F' N'; (try k_extra "cut"); (try k_sweep)))
local macro_rules | `(tactic| walk_at "binaryOp Add bytes bytes") => `(tactic| (k_here; (with_reducible show wpAny _ _ (binaryOp Operator.Add (Value.bytes (List.toArray _) _) (Value.bytes (List.toArray _) _)) _ _ _); (refine add_L (by k_extra "size") ?_); intro _ _))
local macro_rules | `(tactic| walk_at "call builtin:len") => `(tactic| (k_here; (with_reducible show wpAny _ _ (call (Value.builtin "len") [Value.bytes (List.toArray _) _]) _ _ _); (refine len_L (by k_extra "size") ?_); intro _ _))
local macro_rules | `(tactic| walk_at "call builtin:ord") => `(tactic| (k_here; (with_reducible show wpAny _ _ (call (Value.builtin "ord") [Value.bytes (List.toArray _) _]) _ _ _); (refine ord_L ?_ (by k_extra "one")); intro _ _))
local macro_rules | `(tactic| walk_at "compareOp NotEq bytes bytes") => `(tactic| (k_here; (with_reducible refine ne_L ?_)))
local macro_rules | `(tactic| walk_at "compareOp Eq bytes bytes") => `(tactic| (k_here; (with_reducible refine eq_L ?_)))
local macro_rules | `(tactic| walk_at "getMethod str") => `(tactic| (k_here; with_reducible refine meth_encode ?_))
local macro_rules | `(tactic| walk_at "getMethod bytes") => `(tactic| (k_here; with_reducible refine meth_hex ?_))
local macro_rules | `(tactic| walk_at "getMethod bytes") => `(tactic| (k_here; with_reducible refine meth_starts ?_))
local macro_rules | `(tactic| walk_at "getMethod bytes") => `(tactic| (k_here; with_reducible refine meth_join ?_))
local macro_rules | `(tactic| walk_at "call builtin:str.encode") => `(tactic| (k_here; (first | refine call_encode8 (by k_extra "ascii") (by k_extra "size") ?_ | refine call_encodeA (by k_extra "ascii") (by k_extra "size") ?_); intro _ _))
local macro_rules | `(tactic| walk_at "call builtin:bytes.hex") => `(tactic| (k_here; (refine call_hex (by k_extra "size") ?_); intro _ _))
local macro_rules | `(tactic| walk_at "call builtin:bytes.startswith") => `(tactic| (k_here; k_dflt (refine call_starts ?_); intro _))
local macro_rules | `(tactic| walk_at "call builtin:_struct.pack") => `(tactic| (k_here; (refine call_pack (by k_extra "idx") (by k_extra "idx") ?_); intro _ _))
local macro_rules | `(tactic| walk_at "call type:type") => `(tactic| (k_here; k_dflt (first | refine call_type_of (typeIs_bytes _ _ _) (by decide +kernel) ?_ | refine call_type_of (typeIs_str _ _ _) (by decide +kernel) ?_ | refine call_type_of (typeIs_int _ _ _) (by decide +kernel) ?_)))
local macro_rules | `(tactic| walk_at "compareOp Is") => `(tactic| (k_here; (with_reducible show wpAny _ _ (compareOp CmpOp.Is (Value.type _) (Value.type _)) _ _ _); (first | refine wpAny_is_self (by rfl) ?_ | refine wpAny_is_other (by rfl) (by decide) ?_)))
local macro_rules | `(tactic| walk_at "compareOp IsNot") => `(tactic| (k_here; (with_reducible show wpAny _ _ (compareOp CmpOp.IsNot (Value.type _) (Value.type _)) _ _ _); (first | refine wpAny_isNot_self (by rfl) ?_ | refine wpAny_isNot_other (by rfl) (by decide) ?_)))
local macro_rules | `(tactic| walk_at "call type:bytes") => `(tactic| (k_here; (with_reducible show wpAny _ _ (call (Value.type "bytes") [Value.ref _]) _ _ _); k_dflt (refine' make_L ?F ?N ?h ?l ?i ?r ?n ?_; (case F => k_asm); (case N => k_asm); (case h => rfl); (case l => kba_isList); (case i => kba_listInts); (case r => k_extra "in"); (case n => k_extra "size")); intro h' t' tk' F' N'; (try k_sweep)))
local macro_rules | `(tactic| passes_own) => `(tactic| exact PassesOwn.leaving)
local macro_rules | `(tactic| walk_at "binaryOp Mod str int") => `(tactic| (k_here; (with_reducible show wpAny _ _ (binaryOp Operator.Mod (Value.str _ _) (Value.int _ _)) _ _ _); (refine mod_X (by k_extra "idx") (by k_extra "hexlen") (by k_extra "log") ?_); intro _ _))
local macro_rules | `(tactic| walk_at "call builtin:len") => `(tactic| (k_here; (with_reducible show wpAny _ _ (call (Value.builtin "len") [Value.str _ _]) _ _ _); (refine len_S (by k_extra "slen") ?_); intro _ _))
local macro_rules | `(tactic| walk_at "binaryOp Add str str") => `(tactic| (k_here; (with_reducible show wpAny _ _ (binaryOp Operator.Add (Value.str _ _) (Value.str _ _)) _ _ _); (refine add_S0 (by k_extra "slen") ?_); intro _ _))
local macro_rules | `(tactic| walk_at "binaryOp BitAnd int int") => `(tactic| (k_here; (refine and_at (by k_extra "and") ?_); intro _ _))
local macro_rules | `(tactic| walk_at "call type:int") => `(tactic| (k_here; (with_reducible show wpAny _ _ (call (Value.type "int") [Value.bytes (List.toArray _) _, Value.int _ _]) _ _ _); k_dflt (refine int16_L (by k_extra "size") (by k_extra "size") ?_); intro _ _))
local macro_rules | `(tactic| walk_at "call builtin:bytes.startswith") => `(tactic| (k_here; k_dflt (refine starts_at (by k_extra "starts") ?_); intro _))
local macro_rules | `(tactic| walk_at "call builtin:bytes.join") => `(tactic| (k_here; k_dflt (refine' join_L ?F ?N ?m ?T ?c ?d ?p ?z ?_; (case F => k_asm); (case N => k_asm); (case m => k_mem); (case c => exact rfl); (case T => first | exact .inl rfl | exact .inr rfl); (case d => exact rfl); (case p => k_extra "pieces"); (case z => k_extra "size")); intro _ _))
local macro_rules | `(tactic| walk_at "eval ListComp") => `(tactic| (k_here; lcg_look; (with_reducible show wpAny _ _ (eval (Expr.ListComp _ [⟨_, Expr.Name "encoded_pieces" _, _, _⟩] _ _) _) _ _ _); k_dflt (refine ListComp_T (F₀ := by k_asm) (by rfl) (by decide) (by rfl) (by decide) (by rfl) ?_)))
local macro_rules | `(tactic| walk_at "CompTup") => `(tactic| (k_here; k_dflt (refine CompTup.ledger (by rfl) (by k_asm) (by k_asm) (by k_mem) (by first | size_fits | exact Nat.le_of_ble_eq_true rfl) ?_); intro g'; lcg_lit))
local macro_rules | `(tactic| lcg_src) => `(tactic| exact ⟨_, by k_mem, rfl, _, rfl⟩)
local macro_rules | `(tactic| walk_at "CompEnd") => `(tactic| ((with_reducible rename Fr _ _ _ _ => F9); (with_reducible rename News _ _ _ _ => N9); (with_reducible rename LCg.Off3 _ _ _ _ ∧ _ => o9); refine ⟨_, _, _, rfl, F9, N9, o9, by lcg_src, ?_⟩))
local macro_rules | `(tactic| walk_at "CompEnd") => `(tactic| ((with_reducible rename Fr _ _ _ _ => F9); (with_reducible rename News _ _ _ _ => N9); (with_reducible rename _ ∧ LCg.Off3 _ _ _ _ => o9); refine ⟨_, _, _, rfl, F9, N9, o9, by lcg_src, ?_⟩))
local macro_rules | `(tactic| walk_at "UnrEnd") => `(tactic| ((with_reducible rename Fr _ _ _ _ => F9); (with_reducible rename News _ _ _ _ => N9); (with_reducible rename _ < _ ∧ AllLt _ _ => l9); refine' UnrEnd.intro F9 N9 _ (fun p hp => hp) ?off ?_; (case off => exact fun p hp => Nat.ne_of_lt (ktn_ltOf (by exact l9) p hp))))

set_option maxRecDepth 100000 in
set_option maxHeartbeats 8000000 in
theorem con_pow4 (t : Tok) : ConT 2 195 [.int 4 t] [] (fun o => ∃ t0 t1 t2 t3, o = ({ cls := .type "list", data := .seq #[.int 1 t0, .int 256 t1, .int 65536 t2, .int 16777216 t3] 3 } : Obj)) := by
  have hfill9 : Mine.hd.heap_39 = Mine.hd.heap_39 ∧ PySem.Challenge.rw_fe0233_01 = PySem.Challenge.rw_fe0233_01 := (by k_fill; exact ⟨rfl, rfl⟩)
  clear hfill9
  intro prog w mean mg mb dp un gd cn cs a ccd cl outer A₀ base h₀ L m news s Q E B F X N T hk hdp hun hret
  refine wpAny_call ?_
  k_dflt (refine' code_def ?k1 ?k2 ?k3 ?k4 ?k5 ?kA ?kF ?kK ?k6 ?k7 ?k8 ?k9 ?kB ?_ ?c2 ?c3 ?c4 ?c5; (case kA => exact rfl); (case kF => exact rfl); (case kK => assumption); (case k1 => k_asm); (case k2 => k_asm); (case k3 => k_asm); (case k4 => k_asm); (case k5 => k_asm); (case k6 => k_is); (case k7 => k_is); (case k8 => ktr_room); (case k9 => first | exact BindsTo.of_eq rfl | exact binds_K (by k_in) rfl (by k_is) rfl rfl rfl); (case c5 => decide); (case kB => exact locs rfl); (case c2 => exact rfl); (case c3 => exact rfl); (case c4 => exact rfl); k_whole; intro g' L' h' FG' F' N' B' X' T'; (try dsimp only); (try k_fold))
  k_steps
  all_goals first | (with_reducible rename (4:Int) - 1 = _ => e9; exact absurd e9 (by decide)) | ((with_reducible rename News _ _ _ _ => N9); refine' hret _ _ _ _ ?r ?F ?N ?l; (case F => k_asm); (case N => exact N9); (case l => first | assumption | exact tup_lt (by assumption) | exact tup_lt (And.right ‹_ ∧ AllLt _ news›)); (case r => exact ⟨_, _, _, _, rfl⟩))
set_option maxRecDepth 100000 in
set_option maxHeartbeats 8000000 in
theorem con_pow5 (t : Tok) : ConT 2 195 [.int 5 t] [] (fun o => ∃ t0 t1 t2 t3 t4, o = ({ cls := .type "list", data := .seq #[.int 1 t0, .int 256 t1, .int 65536 t2, .int 16777216 t3, .int 4294967296 t4] 4 } : Obj)) := by
  have hfill9 : Mine.hd.heap_39 = Mine.hd.heap_39 ∧ PySem.Challenge.rw_fe0233_01 = PySem.Challenge.rw_fe0233_01 := (by k_fill; exact ⟨rfl, rfl⟩)
  clear hfill9
  intro prog w mean mg mb dp un gd cn cs a ccd cl outer A₀ base h₀ L m news s Q E B F X N T hk hdp hun hret
  refine wpAny_call ?_
  k_dflt (refine' code_def ?k1 ?k2 ?k3 ?k4 ?k5 ?kA ?kF ?kK ?k6 ?k7 ?k8 ?k9 ?kB ?_ ?c2 ?c3 ?c4 ?c5; (case kA => exact rfl); (case kF => exact rfl); (case kK => assumption); (case k1 => k_asm); (case k2 => k_asm); (case k3 => k_asm); (case k4 => k_asm); (case k5 => k_asm); (case k6 => k_is); (case k7 => k_is); (case k8 => ktr_room); (case k9 => first | exact BindsTo.of_eq rfl | exact binds_K (by k_in) rfl (by k_is) rfl rfl rfl); (case c5 => decide); (case kB => exact locs rfl); (case c2 => exact rfl); (case c3 => exact rfl); (case c4 => exact rfl); k_whole; intro g' L' h' FG' F' N' B' X' T'; (try dsimp only); (try k_fold))
  k_steps
  all_goals first | (with_reducible rename (5:Int) - 1 = _ => e9; exact absurd e9 (by decide)) | ((with_reducible rename News _ _ _ _ => N9); refine' hret _ _ _ _ ?r ?F ?N ?l; (case F => k_asm); (case N => exact N9); (case l => first | assumption | exact tup_lt (by assumption) | exact tup_lt (And.right ‹_ ∧ AllLt _ news›)); (case r => exact ⟨_, _, _, _, _, rfl⟩))
set_option maxRecDepth 100000 in
set_option maxHeartbeats 8000000 in
theorem con_pow6 (t : Tok) : ConT 2 195 [.int 6 t] [] (fun o => ∃ t0 t1 t2 t3 t4 t5, o = ({ cls := .type "list", data := .seq #[.int 1 t0, .int 256 t1, .int 65536 t2, .int 16777216 t3, .int 4294967296 t4, .int 1099511627776 t5] 5 } : Obj)) := by
  have hfill9 : Mine.hd.heap_39 = Mine.hd.heap_39 ∧ PySem.Challenge.rw_fe0233_01 = PySem.Challenge.rw_fe0233_01 := (by k_fill; exact ⟨rfl, rfl⟩)
  clear hfill9
  intro prog w mean mg mb dp un gd cn cs a ccd cl outer A₀ base h₀ L m news s Q E B F X N T hk hdp hun hret
  refine wpAny_call ?_
  k_dflt (refine' code_def ?k1 ?k2 ?k3 ?k4 ?k5 ?kA ?kF ?kK ?k6 ?k7 ?k8 ?k9 ?kB ?_ ?c2 ?c3 ?c4 ?c5; (case kA => exact rfl); (case kF => exact rfl); (case kK => assumption); (case k1 => k_asm); (case k2 => k_asm); (case k3 => k_asm); (case k4 => k_asm); (case k5 => k_asm); (case k6 => k_is); (case k7 => k_is); (case k8 => ktr_room); (case k9 => first | exact BindsTo.of_eq rfl | exact binds_K (by k_in) rfl (by k_is) rfl rfl rfl); (case c5 => decide); (case kB => exact locs rfl); (case c2 => exact rfl); (case c3 => exact rfl); (case c4 => exact rfl); k_whole; intro g' L' h' FG' F' N' B' X' T'; (try dsimp only); (try k_fold))
  k_steps
  all_goals first | (with_reducible rename (6:Int) - 1 = _ => e9; exact absurd e9 (by decide)) | ((with_reducible rename News _ _ _ _ => N9); refine' hret _ _ _ _ ?r ?F ?N ?l; (case F => k_asm); (case N => exact N9); (case l => first | assumption | exact tup_lt (by assumption) | exact tup_lt (And.right ‹_ ∧ AllLt _ news›)); (case r => exact ⟨_, _, _, _, _, _, rfl⟩))
set_option maxRecDepth 100000 in
set_option maxHeartbeats 8000000 in
theorem con_pow7 (t : Tok) : ConT 2 195 [.int 7 t] [] (fun o => ∃ t0 t1 t2 t3 t4 t5 t6, o = ({ cls := .type "list", data := .seq #[.int 1 t0, .int 256 t1, .int 65536 t2, .int 16777216 t3, .int 4294967296 t4, .int 1099511627776 t5, .int 281474976710656 t6] 6 } : Obj)) := by
  have hfill9 : Mine.hd.heap_39 = Mine.hd.heap_39 ∧ PySem.Challenge.rw_fe0233_01 = PySem.Challenge.rw_fe0233_01 := (by k_fill; exact ⟨rfl, rfl⟩)
  clear hfill9
  intro prog w mean mg mb dp un gd cn cs a ccd cl outer A₀ base h₀ L m news s Q E B F X N T hk hdp hun hret
  refine wpAny_call ?_
  k_dflt (refine' code_def ?k1 ?k2 ?k3 ?k4 ?k5 ?kA ?kF ?kK ?k6 ?k7 ?k8 ?k9 ?kB ?_ ?c2 ?c3 ?c4 ?c5; (case kA => exact rfl); (case kF => exact rfl); (case kK => assumption); (case k1 => k_asm); (case k2 => k_asm); (case k3 => k_asm); (case k4 => k_asm); (case k5 => k_asm); (case k6 => k_is); (case k7 => k_is); (case k8 => ktr_room); (case k9 => first | exact BindsTo.of_eq rfl | exact binds_K (by k_in) rfl (by k_is) rfl rfl rfl); (case c5 => decide); (case kB => exact locs rfl); (case c2 => exact rfl); (case c3 => exact rfl); (case c4 => exact rfl); k_whole; intro g' L' h' FG' F' N' B' X' T'; (try dsimp only); (try k_fold))
  k_steps
  all_goals first | (with_reducible rename (7:Int) - 1 = _ => e9; exact absurd e9 (by decide)) | ((with_reducible rename News _ _ _ _ => N9); refine' hret _ _ _ _ ?r ?F ?N ?l; (case F => k_asm); (case N => exact N9); (case l => first | assumption | exact tup_lt (by assumption) | exact tup_lt (And.right ‹_ ∧ AllLt _ news›)); (case r => exact ⟨_, _, _, _, _, _, _, rfl⟩))
end Mine
end

noncomputable section
open PySem PySem.W PyProof.Rows
namespace Mine
theorem freshW12 : True := by
  k_with_none
  w_top off
  trivial
def ConS (d : Nat) (f : Addr) (vs : List Value) (v : Value) : Prop :=
  ∀ (prog : Program) (w : World) (mean : ExcName → Option Value) (mg mb : Str → Option Value) (dp un : Nat) (gd : Option (List Code)) (cn : Str) (cs : Scope) (a : Addr) (ccd : Value) (A₀ : Around) (base h₀ : Heap) (L : Addr)
    (m : Str → Option Value) (news : List (Addr × Obj)) (s : Shared) (Q E : Value → Shared → Prop),
    Below A₀ base [] h₀ → (hd.heap_39 w.params).In base → Top hd.view_39 (looseW hd.view_39 LS) mean mg mb base → Fr h₀ L s.heap m → (hd.heap_39 w.params).In h₀ → News h₀ L s.heap news → Top hd.view_39 (looseW hd.view_39 LS) mean mg mb h₀ → cs.kind = .function → dp + d < recursionLimit → un + 20 * d < cLine →
    (∀ h' tk', Fr h₀ L h' m → News h₀ L h' news → Q v { s with heap := h', toks := tk' }) →
    wpAny (model prog w) (ktrTop dp un gd cn cs L a ccd [] []) (call (.ref f) vs) Q E s
local macro_rules | `(tactic| walk_at "subscriptTail") => `(tactic| (k_here; (with_reducible show wpAny _ _ (subscriptTail _ _ (Value.bytes (List.toArray _) _) (Value.int _ _)) _ _ _); (refine item_L (by k_extra "size") (by k_extra "idx") (by k_extra "idx") ?_); intro _ _))
local macro_rules | `(tactic| walk_at "subscriptTail") => `(tactic| (k_here; (with_reducible show wpAny _ _ (subscriptTail _ (Expr.Slice _ _ none _) (Value.bytes (List.toArray _) _) (Value.ref _)) _ _ _); (with_reducible rename Fr _ _ _ _ => F9); (with_reducible rename News _ _ _ _ => N9); (first
  | refine slice_to (s := ⟨_, _, _, _, _⟩) F9 N9 (by k_extra "idx") (by k_extra "size") ?_
  | refine slice_from (s := ⟨_, _, _, _, _⟩) F9 N9 (by k_extra "idx") (by k_extra "size") ?_
  | refine slice_mid (s := ⟨_, _, _, _, _⟩) F9 N9 (by k_extra "idx") (by k_extra "idx") (by k_extra "size") ?_); intro h' t' tk' F' N'; (try k_extra "cut"); (try k_sweep)))
local macro_rules | `(tactic| walk_at "binaryOp Add bytes bytes") => `(tactic| (k_here; (with_reducible show wpAny _ _ (binaryOp Operator.Add (Value.bytes (List.toArray _) _) (Value.bytes (List.toArray _) _)) _ _ _); (refine add_L (by k_extra "size") ?_); intro _ _))
local macro_rules | `(tactic| walk_at "call builtin:len") => `(tactic| (k_here; (with_reducible show wpAny _ _ (call (Value.builtin "len") [Value.bytes (List.toArray _) _]) _ _ _); (refine len_L (by k_extra "size") ?_); intro _ _))
local macro_rules | `(tactic| walk_at "call builtin:ord") => `(tactic| (k_here; (with_reducible show wpAny _ _ (call (Value.builtin "ord") [Value.bytes (List.toArray _) _]) _ _ _); (refine ord_L ?_ (by k_extra "one")); intro _ _))
local macro_rules | `(tactic| walk_at "compareOp NotEq bytes bytes") => `(tactic| (k_here; (with_reducible refine ne_L ?_)))
local macro_rules | `(tactic| walk_at "compareOp Eq bytes bytes") => `(tactic| (k_here; (with_reducible refine eq_L ?_)))
local macro_rules | `(tactic| walk_at "getMethod str") => `(tactic| (k_here; with_reducible refine meth_encode ?_))
local macro_rules | `(tactic| walk_at "getMethod bytes") => `(tactic| (k_here; with_reducible refine meth_hex ?_))
local macro_rules | `(tactic| walk_at "getMethod bytes") => `(tactic| (k_here; with_reducible refine meth_starts ?_))
local macro_rules | `(tactic| walk_at "getMethod bytes") => `(tactic| (k_here; with_reducible refine meth_join ?_))
local macro_rules | `(tactic| walk_at "call builtin:str.encode") => `(tactic| (k_here; (first | refine call_encode8 (by k_extra "ascii") (by k_extra "size") ?_ | refine call_encodeA (by k_extra "ascii") (by k_extra "size") ?_); intro _ _))
local macro_rules | `(tactic| walk_at "call builtin:bytes.hex") => `(tactic| (k_here; (refine call_hex (by k_extra "size") ?_); intro _ _))
local macro_rules | `(tactic| walk_at "call builtin:bytes.startswith") => `(tactic| (k_here; k_dflt (refine call_starts ?_); intro _))
local macro_rules | `(tactic| walk_at "call builtin:_struct.pack") => `(tactic| (k_here; (refine call_pack (by k_extra "idx") (by k_extra "idx") ?_); intro _ _))
local macro_rules | `(tactic| walk_at "call type:type") => `(tactic| (k_here; k_dflt (first | refine call_type_of (typeIs_bytes _ _ _) (by decide +kernel) ?_ | refine call_type_of (typeIs_str _ _ _) (by decide +kernel) ?_ | refine call_type_of (typeIs_int _ _ _) (by decide +kernel) ?_)))
local macro_rules | `(tactic| walk_at "compareOp Is") => `(tactic| (k_here; (with_reducible show wpAny _ _ (compareOp CmpOp.Is (Value.type _) (Value.type _)) _ _ _); (first | refine wpAny_is_self (by rfl) ?_ | refine wpAny_is_other (by rfl) (by decide) ?_)))
local macro_rules | `(tactic| walk_at "compareOp IsNot") => `(tactic| (k_here; (with_reducible show wpAny _ _ (compareOp CmpOp.IsNot (Value.type _) (Value.type _)) _ _ _); (first | refine wpAny_isNot_self (by rfl) ?_ | refine wpAny_isNot_other (by rfl) (by decide) ?_)))
local macro_rules | `(tactic| walk_at "call type:bytes") => `(tactic| (k_here; (with_reducible show wpAny _ _ (call (Value.type "bytes") [Value.ref _]) _ _ _); k_dflt (refine' make_L ?F ?N ?h ?l ?i ?r ?n ?_; (case F => k_asm); (case N => k_asm); (case h => rfl); (case l => kba_isList); (case i => kba_listInts); (case r => k_extra "in"); (case n => k_extra "size")); intro h' t' tk' F' N'; (try k_sweep)))
local macro_rules | `(tactic| passes_own) => `(tactic| exact PassesOwn.leaving)
local macro_rules | `(tactic| walk_at "binaryOp Mod str int") => `(tactic| (k_here; (with_reducible show wpAny _ _ (binaryOp Operator.Mod (Value.str _ _) (Value.int _ _)) _ _ _); (refine mod_X (by k_extra "idx") (by k_extra "hexlen") (by k_extra "log") ?_); intro _ _))
local macro_rules | `(tactic| walk_at "call builtin:len") => `(tactic| (k_here; (with_reducible show wpAny _ _ (call (Value.builtin "len") [Value.str _ _]) _ _ _); (refine len_S (by k_extra "slen") ?_); intro _ _))
local macro_rules | `(tactic| walk_at "binaryOp Add str str") => `(tactic| (k_here; (with_reducible show wpAny _ _ (binaryOp Operator.Add (Value.str _ _) (Value.str _ _)) _ _ _); (refine add_S0 (by k_extra "slen") ?_); intro _ _))
local macro_rules | `(tactic| walk_at "binaryOp BitAnd int int") => `(tactic| (k_here; (refine and_at (by k_extra "and") ?_); intro _ _))
local macro_rules | `(tactic| walk_at "call type:int") => `(tactic| (k_here; (with_reducible show wpAny _ _ (call (Value.type "int") [Value.bytes (List.toArray _) _, Value.int _ _]) _ _ _); k_dflt (refine int16_L (by k_extra "size") (by k_extra "size") ?_); intro _ _))
local macro_rules | `(tactic| walk_at "call builtin:bytes.startswith") => `(tactic| (k_here; k_dflt (refine starts_at (by k_extra "starts") ?_); intro _))
local macro_rules | `(tactic| walk_at "call builtin:bytes.join") => `(tactic| (k_here; k_dflt (refine' join_L ?F ?N ?m ?T ?c ?d ?p ?z ?_; (case F => k_asm); (case N => k_asm); (case m => k_mem); (case c => exact rfl); (case T => first | exact .inl rfl | exact .inr rfl); (case d => exact rfl); (case p => k_extra "pieces"); (case z => k_extra "size")); intro _ _))
local macro_rules | `(tactic| walk_at "eval ListComp") => `(tactic| (k_here; lcg_look; (with_reducible show wpAny _ _ (eval (Expr.ListComp _ [⟨_, Expr.Name "encoded_pieces" _, _, _⟩] _ _) _) _ _ _); k_dflt (refine ListComp_T (F₀ := by k_asm) (by rfl) (by decide) (by rfl) (by decide) (by rfl) ?_)))
local macro_rules | `(tactic| walk_at "CompTup") => `(tactic| (k_here; k_dflt (refine CompTup.ledger (by rfl) (by k_asm) (by k_asm) (by k_mem) (by first | size_fits | exact Nat.le_of_ble_eq_true rfl) ?_); intro g'; lcg_lit))
local macro_rules | `(tactic| lcg_src) => `(tactic| exact ⟨_, by k_mem, rfl, _, rfl⟩)
local macro_rules | `(tactic| walk_at "CompEnd") => `(tactic| ((with_reducible rename Fr _ _ _ _ => F9); (with_reducible rename News _ _ _ _ => N9); (with_reducible rename LCg.Off3 _ _ _ _ ∧ _ => o9); refine ⟨_, _, _, rfl, F9, N9, o9, by lcg_src, ?_⟩))
local macro_rules | `(tactic| walk_at "CompEnd") => `(tactic| ((with_reducible rename Fr _ _ _ _ => F9); (with_reducible rename News _ _ _ _ => N9); (with_reducible rename _ ∧ LCg.Off3 _ _ _ _ => o9); refine ⟨_, _, _, rfl, F9, N9, o9, by lcg_src, ?_⟩))
local macro_rules | `(tactic| walk_at "UnrEnd") => `(tactic| ((with_reducible rename Fr _ _ _ _ => F9); (with_reducible rename News _ _ _ _ => N9); (with_reducible rename _ < _ ∧ AllLt _ _ => l9); refine' UnrEnd.intro F9 N9 _ (fun p hp => hp) ?off ?_; (case off => exact fun p hp => Nat.ne_of_lt (ktn_ltOf (by exact l9) p hp))))

local macro_rules | `(tactic| walk_at "call ref") => `(tactic| (k_here; (with_reducible show wpAny _ _ (call (Value.ref 146) _ _) _ _ _); k_dflt (refine wpAny_call ?_; refine' code_def ?k1 ?k2 ?k3 ?k4 ?k5 ?kA ?kF ?kK ?k6 ?k7 ?k8 ?k9 ?kB ?_ ?c2 ?c3 ?c4 ?c5; (case kA => exact rfl); (case kF => exact rfl); (case kK => first | exact rfl | assumption); (case k1 => k_asm); (case k2 => k_asm); (case k3 => k_asm); (case k4 => k_asm); (case k5 => k_asm); (case k6 => k_is); (case k7 => k_is); (case k8 => ktr_room); (case k9 => first | exact BindsTo.of_eq rfl | exact binds_K (by k_in) rfl (by k_is) rfl rfl rfl); (case c5 => decide); (case kB => exact locs rfl); (case c2 => exact rfl); (case c3 => exact rfl); (case c4 => exact rfl); k_whole; intro g' L' h' FG' F' N' B' X' T'; (try dsimp only); (try k_fold))))
set_option maxRecDepth 100000 in
set_option maxHeartbeats 8000000 in
theorem con_ref_int (c : UInt8) (l : List UInt8) (t : Tok) (hc : c ≠ 2) (hz : (c :: l).length ≤ 5000) : ConS 14 188 [.ref 146, .bytes (c :: l).toArray t] (.bool true) := by
  have hfill9 : Mine.hd.heap_39 = Mine.hd.heap_39 ∧ PySem.Challenge.rw_fe0233_01 = PySem.Challenge.rw_fe0233_01 := (by k_fill; exact ⟨rfl, rfl⟩)
  clear hfill9
  intro prog w mean mg mb dp un gd cn cs a ccd A₀ base h₀ L m news s Q E B XB TB F X N T hk hdp hun hret
  refine wpAny_call ?_
  k_dflt (refine' code_defS0 ?k1 ?k2 ?k3 ?k4 ?k5 ?kA ?k6 ?k7 ?k8 ?k9 ?kB ?_ ?cK ?c2 ?c3 ?c4 ?c5; (case kA => exact rfl); (case k2 => k_asm); (case k1 => k_asm); (case k3 => k_asm); (case k4 => k_asm); (case k5 => k_asm); (case k6 => k_is); (case k7 => k_is); (case k8 => ktr_room); (case k9 => first | exact binds_K (by k_in) rfl (by k_is) rfl rfl rfl | exact BindsTo.of_eq rfl); (case kB => exact locs rfl); (case cK => assumption); (case c2 => exact rfl); (case c3 => exact rfl); (case c4 => exact rfl); (case c5 => decide); k_whole; intro g' L' h' FG' F' N' B' X' T' D'; (try dsimp only); (try k_fold))
  have hst : ((c :: l).head? == some 2) = false := by simp [hc]
  k_with "starts" => exact hst
  k_with "size" => first | omega | with_reducible assumption
  k_steps
  all_goals exact hret _ _ (by k_asm) (by first | k_asm | exact cb_drop (by k_asm) (by kcj_all))
local macro_rules | `(tactic| walk_at "call ref") => `(tactic| (k_here; (with_reducible show wpAny _ _ (call (Value.ref 160) _ _) _ _ _); k_dflt (refine wpAny_call ?_; refine' code_def ?k1 ?k2 ?k3 ?k4 ?k5 ?kA ?kF ?kK ?k6 ?k7 ?k8 ?k9 ?kB ?_ ?c2 ?c3 ?c4 ?c5; (case kA => exact rfl); (case kF => exact rfl); (case kK => first | exact rfl | assumption); (case k1 => k_asm); (case k2 => k_asm); (case k3 => k_asm); (case k4 => k_asm); (case k5 => k_asm); (case k6 => k_is); (case k7 => k_is); (case k8 => ktr_room); (case k9 => first | exact BindsTo.of_eq rfl | exact binds_K (by k_in) rfl (by k_is) rfl rfl rfl); (case c5 => decide); (case kB => exact locs rfl); (case c2 => exact rfl); (case c3 => exact rfl); (case c4 => exact rfl); k_whole; intro g' L' h' FG' F' N' B' X' T'; (try dsimp only); (try k_fold))))
set_option maxRecDepth 100000 in
set_option maxHeartbeats 8000000 in
theorem con_ref_len (c : UInt8) (j : Nat) (l : List UInt8) (t : Tok) (hc : c.toNat = 128 + j) (hj : j < 128) (hl : l.length < j) : ConS 14 188 [.ref 160, .bytes (c :: l).toArray t] (.bool true) := by
  have hfill9 : Mine.hd.heap_39 = Mine.hd.heap_39 ∧ PySem.Challenge.rw_fe0233_01 = PySem.Challenge.rw_fe0233_01 := (by k_fill; exact ⟨rfl, rfl⟩)
  clear hfill9
  intro prog w mean mg mb dp un gd cn cs a ccd A₀ base h₀ L m news s Q E B XB TB F X N T hk hdp hun hret
  refine wpAny_call ?_
  k_dflt (refine' code_defS0 ?k1 ?k2 ?k3 ?k4 ?k5 ?kA ?k6 ?k7 ?k8 ?k9 ?kB ?_ ?cK ?c2 ?c3 ?c4 ?c5; (case kA => exact rfl); (case k2 => k_asm); (case k1 => k_asm); (case k3 => k_asm); (case k4 => k_asm); (case k5 => k_asm); (case k6 => k_is); (case k7 => k_is); (case k8 => ktr_room); (case k9 => first | exact binds_K (by k_in) rfl (by k_is) rfl rfl rfl | exact BindsTo.of_eq rfl); (case kB => exact locs rfl); (case cK => assumption); (case c2 => exact rfl); (case c3 => exact rfl); (case c4 => exact rfl); (case c5 => decide); k_whole; intro g' L' h' FG' F' N' B' X' T' D'; (try dsimp only); (try k_fold))
  have ha1 : Builtin.bitAnd ((c.toNat : Nat) : Int) 128 = 128 := by rw [hc]; exact and128_hi _ (by omega)
  have ha2 : Builtin.bitAnd ((c.toNat : Nat) : Int) 127 = (j : Int) := by rw [hc]; exact and127_hi _ (by omega)
  have hlen : (c :: l).length = 1 + l.length := by simp only [List.length_cons]; omega
  k_with "size" => first | omega | with_reducible assumption
  k_with "idx" => first | decide | omega
  k_with "one" => rfl
  k_with "and" => first | exact ha1 | exact ha2
  k_steps
  all_goals first | exact hret _ _ (by k_asm) (by first | k_asm | exact cb_drop (by k_asm) (by kcj_all))
local macro_rules | `(tactic| walk_at "call ref") => `(tactic| (k_here; k_dflt (refine' ConTN (con_rl_short _ _ _ (by k_extra "short") (by k_extra "size")) ?k1 ?k2 ?k3 ?k4 ?k5 ?kK ?kd ?ku ?_; (case k1 => k_asm); (case k2 => k_asm); (case k3 => k_asm); (case k4 => k_asm); (case k5 => k_asm); (case kK => first | exact rfl | assumption); (case kd => ktr_room); (case ku => ktr_units)); intro x' o' h' tk' hR' F' N' l'; (obtain ⟨t1', t2', hR'⟩ := hR'); (unfold tupO at hR'); (subst hR'); (try k_lt l'); (try dsimp only); (try k_sweep)))
set_option maxRecDepth 100000 in
set_option maxHeartbeats 8000000 in
theorem con_ref_cut (k : UInt8) (r : List UInt8) (t : Tok) (hkl : r.length < k.toNat) (hk2 : k.toNat < 128) : ConS 22 188 [.ref 146, .bytes (2 :: k :: r).toArray t] (.bool true) := by
  have hfill9 : Mine.hd.heap_39 = Mine.hd.heap_39 ∧ PySem.Challenge.rw_fe0233_01 = PySem.Challenge.rw_fe0233_01 := (by k_fill; exact ⟨rfl, rfl⟩)
  clear hfill9
  intro prog w mean mg mb dp un gd cn cs a ccd A₀ base h₀ L m news s Q E B XB TB F X N T hk hdp hun hret
  refine wpAny_call ?_
  k_dflt (refine' code_defS0 ?k1 ?k2 ?k3 ?k4 ?k5 ?kA ?k6 ?k7 ?k8 ?k9 ?kB ?_ ?cK ?c2 ?c3 ?c4 ?c5; (case kA => exact rfl); (case k2 => k_asm); (case k1 => k_asm); (case k3 => k_asm); (case k4 => k_asm); (case k5 => k_asm); (case k6 => k_is); (case k7 => k_is); (case k8 => ktr_room); (case k9 => first | exact binds_K (by k_in) rfl (by k_is) rfl rfl rfl | exact BindsTo.of_eq rfl); (case kB => exact locs rfl); (case cK => assumption); (case c2 => exact rfl); (case c3 => exact rfl); (case c4 => exact rfl); (case c5 => decide); k_whole; intro g' L' h' FG' F' N' B' X' T' D'; (try dsimp only); (try k_fold))
  have hcut1 : (2 :: k :: r).drop (Int.toNat 1) = k :: r := rfl
  have hlen : (2 :: k :: r).length = 2 + r.length := by simp only [List.length_cons]; omega
  have hlen2 : (k :: r).length = 1 + r.length := by simp only [List.length_cons]; omega
  k_with "cut" => rw [hcut1]
  k_with "short" => omega
  k_with "starts" => exact (show _ = true from rfl)
  k_with "size" => first | omega | with_reducible assumption
  k_with "idx" => first | decide | omega
  k_steps
  all_goals first | exact hret _ _ (by k_asm) (by first | k_asm | exact cb_drop (by k_asm) (by kcj_all))
end Mine
end

noncomputable section
open PySem PySem.W PyProof.Rows
namespace Mine
theorem freshW13 : True := by
  k_with_none
  w_top off
  trivial
local macro_rules | `(tactic| walk_at "no such key") => `(tactic| skip)
local macro_rules | `(tactic| walk_at "subscriptTail") => `(tactic| (k_here; (with_reducible show wpAny _ _ (subscriptTail _ _ (Value.bytes (List.toArray _) _) (Value.int _ _)) _ _ _); (refine item_L (by k_extra "size") (by k_extra "idx") (by k_extra "idx") ?_); intro _ _))
local macro_rules | `(tactic| walk_at "subscriptTail") => `(tactic| (k_here; (with_reducible show wpAny _ _ (subscriptTail _ (Expr.Slice _ _ none _) (Value.bytes (List.toArray _) _) (Value.ref _)) _ _ _); (with_reducible rename Fr _ _ _ _ => F9); (with_reducible rename News _ _ _ _ => N9); (first
  | refine slice_to (s := ⟨_, _, _, _, _⟩) F9 N9 (by k_extra "idx") (by k_extra "size") ?_
  | refine slice_from (s := ⟨_, _, _, _, _⟩) F9 N9 (by k_extra "idx") (by k_extra "size") ?_
  | refine slice_mid (s := ⟨_, _, _, _, _⟩) F9 N9 (by k_extra "idx") (by k_extra "idx") (by k_extra "size") ?_); intro h' t' tk' F' N'; (try k_extra "cut"); (try k_sweep)))
local macro_rules | `(tactic| walk_at "binaryOp Add bytes bytes") => `(tactic| (k_here; (with_reducible show wpAny _ _ (binaryOp Operator.Add (Value.bytes (List.toArray _) _) (Value.bytes (List.toArray _) _)) _ _ _); (refine add_L (by k_extra "size") ?_); intro _ _))
local macro_rules | `(tactic| walk_at "call builtin:len") => `(tactic| (k_here; (with_reducible show wpAny _ _ (call (Value.builtin "len") [Value.bytes (List.toArray _) _]) _ _ _); (refine len_L (by k_extra "size") ?_); intro _ _))
local macro_rules | `(tactic| walk_at "call builtin:ord") => `(tactic| (k_here; (with_reducible show wpAny _ _ (call (Value.builtin "ord") [Value.bytes (List.toArray _) _]) _ _ _); (refine ord_L ?_ (by k_extra "one")); intro _ _))
local macro_rules | `(tactic| walk_at "compareOp NotEq bytes bytes") => `(tactic| (k_here; (with_reducible refine ne_L ?_)))
local macro_rules | `(tactic| walk_at "compareOp Eq bytes bytes") => `(tactic| (k_here; (with_reducible refine eq_L ?_)))
local macro_rules | `(tactic| walk_at "getMethod str") => `(tactic| (k_here; with_reducible refine meth_encode ?_))
local macro_rules | `(tactic| walk_at "getMethod bytes") => `(tactic| (k_here; with_reducible refine meth_hex ?_))
local macro_rules | `(tactic| walk_at "getMethod bytes") => `(tactic| (k_here; with_reducible refine meth_starts ?_))
local macro_rules | `(tactic| walk_at "getMethod bytes") => `(tactic| (k_here; with_reducible refine meth_join ?_))
local macro_rules | `(tactic| walk_at "call builtin:str.encode") => `(tactic| (k_here; (first | refine call_encode8 (by k_extra "ascii") (by k_extra "size") ?_ | refine call_encodeA (by k_extra "ascii") (by k_extra "size") ?_); intro _ _))
local macro_rules | `(tactic| walk_at "call builtin:bytes.hex") => `(tactic| (k_here; (refine call_hex (by k_extra "size") ?_); intro _ _))
local macro_rules | `(tactic| walk_at "call builtin:bytes.startswith") => `(tactic| (k_here; k_dflt (refine call_starts ?_); intro _))
local macro_rules | `(tactic| walk_at "call builtin:_struct.pack") => `(tactic| (k_here; (refine call_pack (by k_extra "idx") (by k_extra "idx") ?_); intro _ _))
local macro_rules | `(tactic| walk_at "call type:type") => `(tactic| (k_here; k_dflt (first | refine call_type_of (typeIs_bytes _ _ _) (by decide +kernel) ?_ | refine call_type_of (typeIs_str _ _ _) (by decide +kernel) ?_ | refine call_type_of (typeIs_int _ _ _) (by decide +kernel) ?_)))
local macro_rules | `(tactic| walk_at "compareOp Is") => `(tactic| (k_here; (with_reducible show wpAny _ _ (compareOp CmpOp.Is (Value.type _) (Value.type _)) _ _ _); (first | refine wpAny_is_self (by rfl) ?_ | refine wpAny_is_other (by rfl) (by decide) ?_)))
local macro_rules | `(tactic| walk_at "compareOp IsNot") => `(tactic| (k_here; (with_reducible show wpAny _ _ (compareOp CmpOp.IsNot (Value.type _) (Value.type _)) _ _ _); (first | refine wpAny_isNot_self (by rfl) ?_ | refine wpAny_isNot_other (by rfl) (by decide) ?_)))
local macro_rules | `(tactic| walk_at "call type:bytes") => `(tactic| (k_here; (with_reducible show wpAny _ _ (call (Value.type "bytes") [Value.ref _]) _ _ _); k_dflt (refine' make_L ?F ?N ?h ?l ?i ?r ?n ?_; (case F => k_asm); (case N => k_asm); (case h => rfl); (case l => kba_isList); (case i => kba_listInts); (case r => k_extra "in"); (case n => k_extra "size")); intro h' t' tk' F' N'; (try k_sweep)))
local macro_rules | `(tactic| passes_own) => `(tactic| exact PassesOwn.leaving)
local macro_rules | `(tactic| walk_at "binaryOp Mod str int") => `(tactic| (k_here; (with_reducible show wpAny _ _ (binaryOp Operator.Mod (Value.str _ _) (Value.int _ _)) _ _ _); (refine mod_X (by k_extra "idx") (by k_extra "hexlen") (by k_extra "log") ?_); intro _ _))
local macro_rules | `(tactic| walk_at "call builtin:len") => `(tactic| (k_here; (with_reducible show wpAny _ _ (call (Value.builtin "len") [Value.str _ _]) _ _ _); (refine len_S (by k_extra "slen") ?_); intro _ _))
local macro_rules | `(tactic| walk_at "binaryOp Add str str") => `(tactic| (k_here; (with_reducible show wpAny _ _ (binaryOp Operator.Add (Value.str _ _) (Value.str _ _)) _ _ _); (refine add_S0 (by k_extra "slen") ?_); intro _ _))
local macro_rules | `(tactic| walk_at "binaryOp BitAnd int int") => `(tactic| (k_here; (refine and_at (by k_extra "and") ?_); intro _ _))
local macro_rules | `(tactic| walk_at "call type:int") => `(tactic| (k_here; (with_reducible show wpAny _ _ (call (Value.type "int") [Value.bytes (List.toArray _) _, Value.int _ _]) _ _ _); k_dflt (refine int16_L (by k_extra "size") (by k_extra "size") ?_); intro _ _))
local macro_rules | `(tactic| walk_at "call builtin:bytes.startswith") => `(tactic| (k_here; k_dflt (refine starts_at (by k_extra "starts") ?_); intro _))
local macro_rules | `(tactic| walk_at "call builtin:bytes.join") => `(tactic| (k_here; k_dflt (refine' join_L ?F ?N ?m ?T ?c ?d ?p ?z ?_; (case F => k_asm); (case N => k_asm); (case m => k_mem); (case c => exact rfl); (case T => first | exact .inl rfl | exact .inr rfl); (case d => exact rfl); (case p => k_extra "pieces"); (case z => k_extra "size")); intro _ _))
local macro_rules | `(tactic| walk_at "eval ListComp") => `(tactic| (k_here; lcg_look; (with_reducible show wpAny _ _ (eval (Expr.ListComp _ [⟨_, Expr.Name "encoded_pieces" _, _, _⟩] _ _) _) _ _ _); k_dflt (refine ListComp_T (F₀ := by k_asm) (by rfl) (by decide) (by rfl) (by decide) (by rfl) ?_)))
local macro_rules | `(tactic| walk_at "CompTup") => `(tactic| (k_here; k_dflt (refine CompTup.ledger (by rfl) (by k_asm) (by k_asm) (by k_mem) (by first | size_fits | exact Nat.le_of_ble_eq_true rfl) ?_); intro g'; lcg_lit))
local macro_rules | `(tactic| lcg_src) => `(tactic| exact ⟨_, by k_mem, rfl, _, rfl⟩)
local macro_rules | `(tactic| walk_at "CompEnd") => `(tactic| ((with_reducible rename Fr _ _ _ _ => F9); (with_reducible rename News _ _ _ _ => N9); (with_reducible rename LCg.Off3 _ _ _ _ ∧ _ => o9); refine ⟨_, _, _, rfl, F9, N9, o9, by lcg_src, ?_⟩))
local macro_rules | `(tactic| walk_at "CompEnd") => `(tactic| ((with_reducible rename Fr _ _ _ _ => F9); (with_reducible rename News _ _ _ _ => N9); (with_reducible rename _ ∧ LCg.Off3 _ _ _ _ => o9); refine ⟨_, _, _, rfl, F9, N9, o9, by lcg_src, ?_⟩))
local macro_rules | `(tactic| walk_at "UnrEnd") => `(tactic| ((with_reducible rename Fr _ _ _ _ => F9); (with_reducible rename News _ _ _ _ => N9); (with_reducible rename _ < _ ∧ AllLt _ _ => l9); refine' UnrEnd.intro F9 N9 _ (fun p hp => hp) ?off ?_; (case off => exact fun p hp => Nat.ne_of_lt (ktn_ltOf (by exact l9) p hp))))

local macro_rules | `(tactic| walk_at "binaryOp Mod str ref") => `(tactic| (k_here; k_dflt (refine' mod_DS ?N ?b ?p ?q ?z ?_; (case N => k_asm); (case b => k_mem); (case p => k_extra "idx"); (case q => k_extra "idx"); (case z => k_extra "slen")); intro _ _ _))
local macro_rules | `(tactic| walk_at "call ref") => `(tactic| (k_here; (with_reducible show wpAny _ _ (call (Value.ref 138) _ _) _ _ _); k_dflt (refine wpAny_call ?_; refine' code_def ?k1 ?k2 ?k3 ?k4 ?k5 ?kA ?kF ?kK ?k6 ?k7 ?k8 ?k9 ?kB ?_ ?c2 ?c3 ?c4 ?c5; (case kA => exact rfl); (case kF => exact rfl); (case kK => first | exact rfl | assumption); (case k1 => k_asm); (case k2 => k_asm); (case k3 => k_asm); (case k4 => k_asm); (case k5 => k_asm); (case k6 => k_is); (case k7 => k_is); (case k8 => ktr_room); (case k9 => first | exact BindsTo.of_eq rfl | exact binds_K (by k_in) rfl (by k_is) rfl rfl rfl); (case c5 => decide); (case kB => exact locs rfl); (case c2 => exact rfl); (case c3 => exact rfl); (case c4 => exact rfl); k_whole; intro g' L' h' FG' F' N' B' X' T'; (try dsimp only); (try k_fold))))
local macro_rules | `(tactic| walk_at "call ref") => `(tactic| (k_here; k_dflt (refine' ConN (con_b2a _ _ (by k_extra "size")) ?k1 ?k2 ?k3 ?k4 ?k5 ?kK ?kd ?ku ?_; (case k1 => k_asm); (case k2 => k_asm); (case k3 => k_asm); (case k4 => k_asm); (case k5 => k_asm); (case kK => first | exact rfl | assumption); (case kd => ktr_room); (case ku => ktr_units)); intro t' h' tk' F' N'; (try dsimp only); (try k_sweep)))
set_option maxRecDepth 100000 in
set_option maxHeartbeats 8000000 in
theorem con_ref_seq (c : UInt8) (l : List UInt8) (t : Tok) (hc : c ≠ 48) (hz : (c :: l).length ≤ 4000) : ConS 22 188 [.ref 138, .bytes (c :: l).toArray t] (.bool true) := by
  have hfill9 : Mine.hd.heap_39 = Mine.hd.heap_39 ∧ PySem.Challenge.rw_fe0233_01 = PySem.Challenge.rw_fe0233_01 := (by k_fill; exact ⟨rfl, rfl⟩)
  clear hfill9
  intro prog w mean mg mb dp un gd cn cs a ccd A₀ base h₀ L m news s Q E B XB TB F X N T hk hdp hun hret
  refine wpAny_call ?_
  k_dflt (refine' code_defS0 ?k1 ?k2 ?k3 ?k4 ?k5 ?kA ?k6 ?k7 ?k8 ?k9 ?kB ?_ ?cK ?c2 ?c3 ?c4 ?c5; (case kA => exact rfl); (case k2 => k_asm); (case k1 => k_asm); (case k3 => k_asm); (case k4 => k_asm); (case k5 => k_asm); (case k6 => k_is); (case k7 => k_is); (case k8 => ktr_room); (case k9 => first | exact binds_K (by k_in) rfl (by k_is) rfl rfl rfl | exact BindsTo.of_eq rfl); (case kB => exact locs rfl); (case cK => assumption); (case c2 => exact rfl); (case c3 => exact rfl); (case c4 => exact rfl); (case c5 => decide); k_whole; intro g' L' h' FG' F' N' B' X' T' D'; (try dsimp only); (try k_fold))
  have hst : ((c :: l).head? == some 48) = false := by simp [hc]
  have hct : ((c :: l).take (Int.toNat 10)).length ≤ 10 := by rw [List.length_take]; exact Nat.min_le_left _ _
  have hx : (chB (hexOut ((c :: l).take (Int.toNat 10)))).length ≤ 20 := by rw [show (chB (hexOut ((c :: l).take (Int.toNat 10)))).length = (hexOut ((c :: l).take (Int.toNat 10))).length by simp [chB], hexOut_length]; omega
  k_with "starts" => exact hst
  k_with "size" => first | omega | with_reducible assumption
  k_with "slen" => exact hx
  k_with "idx" => first | decide | omega
  k_steps
  all_goals first | exact hret _ _ (by k_asm) (by first | k_asm | exact cb_drop (by k_asm) (by kcj_all))
end Mine
end

noncomputable section
open PySem PySem.W PyProof.Rows
namespace Mine
section
variable {M : Model} {A : Around} {E : Value → Shared → Prop} {s : Shared} {env : Env} {st : Stmt} {rest : List Stmt} {Q : Flow → Shared → Prop}
def Nx (P : Shared → Prop) (f : Flow) (s' : Shared) : Prop := f = .next ∧ P s'
theorem stage (P : Shared → Prop) (h1 : wpAny M A (exec st env) (fun f s' => Nx P f s') E s) (h2 : ∀ s', P s' → wpAny M A (execs rest env) Q E s') : wpAny M A (execs (st :: rest) env) Q E s :=
  wpAny_execs_cons (wpAny_mono h1 (fun f s' h => by obtain ⟨rfl, h⟩ := h; exact h2 s' h) fun _ _ e => e)
theorem absQ {t : Sem Flow} (hq : ∀ s', Q (.ret (.bool true)) s') (h : ∀ (Q' : Flow → Shared → Prop) (E' : Value → Shared → Prop), (∀ s', Q' (.ret (.bool true)) s') → wpAny M A t Q' E' s) : wpAny M A t Q E s := h Q E hq
theorem absQF {sts : List Stmt} {h₀ : Heap} {L : Addr} {m : Str → Option Value} (_F : Fr h₀ L s.heap m) (hE : PassesOwn M A env E) (hq : ∀ h' tk' m', Fr h₀ L h' m' → Q (.ret (.bool true)) { s with heap := h', toks := tk' })
    (h : ∀ (Q' : Flow → Shared → Prop) (E' : Value → Shared → Prop), (∀ h' tk' m', Fr h₀ L h' m' → Q' (.ret (.bool true)) { s with heap := h', toks := tk' }) → PassesOwn M A env E' → wpAny M A (execs sts env) Q' E' s) : wpAny M A (execs sts env) Q E s := h Q E hq hE
end
abbrev upd (m : Str → Option Value) (y : Str) (v : Value) : Str → Option Value := fun z => if z = y then some v else m z
def PostT (h₀ : Heap) (L : Addr) (m : Str → Option Value) (news : List (Addr × Obj)) (s : Shared) (y : Str) (R : Obj → Prop) (s' : Shared) : Prop :=
  ∃ (x : Addr) (o : Obj) (h' : Heap) (tk' : Nat), R o ∧ s' = { s with heap := h', toks := tk' } ∧ Fr h₀ L h' (upd m y (.ref x)) ∧ News h₀ L h' ((x, o) :: news) ∧ (∀ p ∈ news, p.1 ≠ x)
def PostV (h₀ : Heap) (L : Addr) (m : Str → Option Value) (news : List (Addr × Obj)) (s : Shared) (y : Str) (R : Value → Prop) (s' : Shared) : Prop :=
  ∃ (v : Value) (h' : Heap) (tk' : Nat), R v ∧ s' = { s with heap := h', toks := tk' } ∧ Fr h₀ L h' (upd m y v) ∧ News h₀ L h' news
def PostN (h₀ : Heap) (L : Addr) (m : Str → Option Value) (news : List (Addr × Obj)) (s : Shared) (s' : Shared) : Prop :=
  ∃ (h' : Heap) (tk' : Nat), s' = { s with heap := h', toks := tk' } ∧ Fr h₀ L h' m ∧ News h₀ L h' news
section
variable {M : Model} {A : Around} {E : Value → Shared → Prop} {s : Shared} {env : Env} {st : Stmt} {rest : List Stmt} {Q : Flow → Shared → Prop} {h₀ : Heap} {L : Addr} {m : Str → Option Value} {news : List (Addr × Obj)}
theorem stageT (y : Str) (R : Obj → Prop) (_F : Fr h₀ L s.heap m) (_N : News h₀ L s.heap news) (h1 : wpAny M A (exec st env) (fun f s' => Nx (PostT h₀ L m news s y R) f s') E s)
    (h2 : ∀ x o h' tk', R o → Fr h₀ L h' (upd m y (.ref x)) → News h₀ L h' ((x, o) :: news) → (∀ p ∈ news, p.1 ≠ x) → wpAny M A (execs rest env) Q E { s with heap := h', toks := tk' }) : wpAny M A (execs (st :: rest) env) Q E s :=
  stage _ h1 fun s' h => by obtain ⟨x, o, h', tk', hR, rfl, F, N, l⟩ := h; exact h2 x o h' tk' hR F N l
theorem stageV (y : Str) (R : Value → Prop) (_F : Fr h₀ L s.heap m) (_N : News h₀ L s.heap news) (h1 : wpAny M A (exec st env) (fun f s' => Nx (PostV h₀ L m news s y R) f s') E s)
    (h2 : ∀ v h' tk', R v → Fr h₀ L h' (upd m y v) → News h₀ L h' news → wpAny M A (execs rest env) Q E { s with heap := h', toks := tk' }) : wpAny M A (execs (st :: rest) env) Q E s :=
  stage _ h1 fun s' h => by obtain ⟨v, h', tk', hR, rfl, F, N⟩ := h; exact h2 v h' tk' hR F N
theorem stageN (_F : Fr h₀ L s.heap m) (_N : News h₀ L s.heap news) (h1 : wpAny M A (exec st env) (fun f s' => Nx (PostN h₀ L m news s) f s') E s)
    (h2 : ∀ h' tk', Fr h₀ L h' m → News h₀ L h' news → wpAny M A (execs rest env) Q E { s with heap := h', toks := tk' }) : wpAny M A (execs (st :: rest) env) Q E s :=
  stage _ h1 fun s' h => by obtain ⟨h', tk', rfl, F, N⟩ := h; exact h2 h' tk' F N
theorem endT {y : Str} {R : Obj → Prop} {x : Addr} {o : Obj} {h' : Heap} {tk' : Nat} (F : Fr h₀ L h' (upd m y (.ref x))) (N : News h₀ L h' ((x, o) :: news)) (l : ∀ p ∈ news, p.1 ≠ x) (hR : R o) : Nx (PostT h₀ L m news s y R) .next { s with heap := h', toks := tk' } := ⟨rfl, x, o, h', tk', hR, rfl, F, N, l⟩
theorem endT2 {y : Str} {R : Obj → Prop} {x : Addr} {o : Obj} {h' : Heap} {tk' : Nat} {more : List (Addr × Obj)} (F : Fr h₀ L h' (upd m y (.ref x))) (N : News h₀ L h' ((x, o) :: more)) (hs : ∀ p ∈ news, p ∈ (x, o) :: more) (l : ∀ p ∈ news, p.1 ≠ x) (hR : R o) : Nx (PostT h₀ L m news s y R) .next { s with heap := h', toks := tk' } :=
  endT F (cb_drop N fun p hp => by rcases List.mem_cons.mp hp with rfl | hp; exact List.mem_cons_self; exact hs p hp) l hR
theorem endV {y : Str} {R : Value → Prop} {v : Value} {h' : Heap} {tk' : Nat} {more : List (Addr × Obj)} (F : Fr h₀ L h' (upd m y v)) (N : News h₀ L h' more) (hs : ∀ p ∈ news, p ∈ more) (hR : R v) : Nx (PostV h₀ L m news s y R) .next { s with heap := h', toks := tk' } := ⟨rfl, v, h', tk', hR, rfl, F, cb_drop N hs⟩
theorem endN {h' : Heap} {tk' : Nat} {more : List (Addr × Obj)} (F : Fr h₀ L h' m) (N : News h₀ L h' more) (hs : ∀ p ∈ news, p ∈ more) : Nx (PostN h₀ L m news s) .next { s with heap := h', toks := tk' } := ⟨rfl, h', tk', rfl, F, cb_drop N hs⟩
theorem upd_upd (m : Str → Option Value) (y : Str) (v v' : Value) : upd (upd m y v) y v' = upd m y v' := by
  funext z
  unfold upd
  by_cases h : z = y
  · rw [if_pos h, if_pos h]
  · rw [if_neg h, if_neg h, if_neg h]
theorem endV3 {y : Str} {v w1 w2 : Value} {h' : Heap} {tk' : Nat} {more : List (Addr × Obj)} (F : Fr h₀ L h' (upd (upd (upd m y w1) y w2) y v)) (N : News h₀ L h' more) (hs : ∀ p ∈ news, p ∈ more) : Nx (PostV h₀ L m news s y (fun _ => True)) .next { s with heap := h', toks := tk' } := by
  repeat rw [upd_upd] at F
  exact endV F N hs trivial
theorem endV4 {y : Str} {v w1 w2 w3 : Value} {h' : Heap} {tk' : Nat} {more : List (Addr × Obj)} (F : Fr h₀ L h' (upd (upd (upd (upd m y w1) y w2) y w3) y v)) (N : News h₀ L h' more) (hs : ∀ p ∈ news, p ∈ more) : Nx (PostV h₀ L m news s y (fun _ => True)) .next { s with heap := h', toks := tk' } := by
  repeat rw [upd_upd] at F
  exact endV F N hs trivial
theorem endV5 {y : Str} {v w1 w2 w3 w4 : Value} {h' : Heap} {tk' : Nat} {more : List (Addr × Obj)} (F : Fr h₀ L h' (upd (upd (upd (upd (upd m y w1) y w2) y w3) y w4) y v)) (N : News h₀ L h' more) (hs : ∀ p ∈ news, p ∈ more) : Nx (PostV h₀ L m news s y (fun _ => True)) .next { s with heap := h', toks := tk' } := by
  repeat rw [upd_upd] at F
  exact endV F N hs trivial
end
section
variable {prog : Program} {w : World} {A : Around} {E : Value → Shared → Prop} {s : Shared} {value slice : Expr} {l : Addr} {u : Tok} {x y z : Value} {r : List Value} {Q : Value → Shared → Prop}
theorem item_0 (hl : s.heap.IsList l (x :: r).toArray) (h : Q x s) (hs : subscripted slice false (.ref l) (.int 0 u) = operate [.ref l, .int 0 u] (getItem (.ref l) (.int 0 u)) := by with_unfolding_all rfl) (hg : ∀ r, letTemporaryGo value (.ref l) r = pure () := by intro _; with_unfolding_all rfl) :
    wpAny (model prog w) A (subscriptTail value slice (.ref l) (.int 0 u)) Q E s := PyProof.Rows.item_list hl (by decide) (by decide) rfl h hs hg
theorem item_1 (hl : s.heap.IsList l (x :: y :: r).toArray) (h : Q y s) (hs : subscripted slice false (.ref l) (.int 1 u) = operate [.ref l, .int 1 u] (getItem (.ref l) (.int 1 u)) := by with_unfolding_all rfl) (hg : ∀ r, letTemporaryGo value (.ref l) r = pure () := by intro _; with_unfolding_all rfl) :
    wpAny (model prog w) A (subscriptTail value slice (.ref l) (.int 1 u)) Q E s := PyProof.Rows.item_list hl (by decide) (by decide) rfl h hs hg
theorem item_2 (hl : s.heap.IsList l (x :: y :: z :: r).toArray) (h : Q z s) (hs : subscripted slice false (.ref l) (.int 2 u) = operate [.ref l, .int 2 u] (getItem (.ref l) (.int 2 u)) := by with_unfolding_all rfl) (hg : ∀ r, letTemporaryGo value (.ref l) r = pure () := by intro _; with_unfolding_all rfl) :
    wpAny (model prog w) A (subscriptTail value slice (.ref l) (.int 2 u)) Q E s := PyProof.Rows.item_list hl (by decide) (by decide) rfl h hs hg
end
end Mine
end

noncomputable section
open PySem PySem.W PyProof.Rows
namespace Mine
theorem octB_pos (n : Nat) : 0 < (octB n).length := List.length_pos_iff.mpr (octB_ne n)
theorem valB_zero (l : List UInt8) : valB (0 :: l) = valB l := rfl
theorem intC_val (n : Nat) : valB (intC n) = n := by
  unfold intC
  split
  · exact octB_val n
  · rw [valB_zero, octB_val]
theorem intC_pos (n : Nat) : 0 < (intC n).length := by
  unfold intC
  split
  · exact octB_pos n
  · simp
theorem intC_len {n : Nat} (h : n < 10 ^ 60) : (intC n).length ≤ 26 := by
  have h1 : (octB n).length ≤ 25 := by
    rw [octB_length]
    exact octL_length n 24 (Nat.lt_of_lt_of_le h (by decide))
  unfold intC
  split
  · omega
  · rw [List.length_cons]; omega
theorem intC_head (n : Nat) : ((intC n).headD 0).toNat ≤ 127 := by
  unfold intC
  split
  · assumption
  · exact Nat.le_of_ble_eq_true rfl
theorem intB_len {n : Nat} (h : n < 10 ^ 60) : (intB n).length ≤ 28 := by
  have := intC_len h
  unfold intB
  simp only [List.length_append, List.length_cons, List.length_nil]
  omega
theorem intB_app (n : Nat) (r : List UInt8) : intB n ++ r = 2 :: (intC n).length.toUInt8 :: (intC n ++ r) := by
  unfold intB
  simp
theorem con_remint_v (v : Nat) (l r : List UInt8) (t : Tok) (e : l = intB v ++ r) (hv : v < 10 ^ 60) (hr : r.length ≤ 100) : ConT 8 146 [.bytes l.toArray t] [] (fun z => ∃ t1 t2, tupO (.int (v : Int) t1) (.bytes r.toArray t2) z) := by
  have hl := intC_len hv
  have hp := intC_pos v
  have hh := intC_head v
  rw [e, intB_app]
  have c := con_remint (intC v).length.toUInt8 (intC v) r t (toNat_of (by omega)) hp (by omega) (by simp only [List.length_cons, List.length_append]; omega)
  rw [if_neg (by omega), intC_val] at c
  exact c
theorem flat_len : ∀ {vs : List Nat}, (∀ v ∈ vs, v < 10 ^ 60) → ((vs.map intB).flatten).length ≤ 28 * vs.length
  | [], _ => Nat.le_of_ble_eq_true rfl
  | v :: r, h => by
    have h1 := intB_len (h v (.head _))
    have h2 := flat_len (vs := r) fun x hx => h x (.tail _ hx)
    simp only [List.map_cons, List.flatten_cons, List.length_append, List.length_cons]
    omega
theorem oct128 (a : Int) : 128 ≤ ((128 + a.fmod 128).toNat.toUInt8).toNat := by
  have h1 : 0 ≤ a.fmod 128 := Int.fmod_nonneg_of_pos _ (by decide)
  have h2 : a.fmod 128 < 128 := Int.fmod_lt_of_pos _ (by decide)
  rw [toNat_of (by omega)]
  omega
theorem oct_in (a : Int) : ∀ n ∈ [128 + a.fmod 128], 0 ≤ n ∧ n < 256 := by
  have h1 : 0 ≤ a.fmod 128 := Int.fmod_nonneg_of_pos _ (by decide)
  have h2 : a.fmod 128 < 128 := Int.fmod_lt_of_pos _ (by decide)
  intro n hn
  rw [List.mem_singleton.mp hn]
  omega
theorem seq_eq (b : List UInt8) : seqB b = [(Int.toNat 48).toUInt8] ++ lenB ((b.length : Nat) : Int).toNat ++ b := rfl
theorem seq_nil (b : List UInt8) : seqB b ++ seqB [] = seqB b ++ [(Int.toNat 48).toUInt8, (Int.toNat 0).toUInt8] := rfl
theorem con_remseq_nil (l b : List UInt8) (t : Tok) (hl : l = seqB b) (hz : l.length ≤ 4000) : ConT 8 138 [.bytes l.toArray t] [] (fun z => ∃ t1 t2, tupO (.bytes b.toArray t1) (.bytes ([] : List UInt8).toArray t2) z) :=
  con_remseq l b [] t (by rw [List.append_nil]; exact hl) hz
end Mine
end

noncomputable section
open PySem PySem.W PyProof.Rows
namespace Mine
def powL (n : Nat) : List Int := (List.range n).map fun i => (256 : Int) ^ i
theorem powL_len (n : Nat) : (powL n).length = n := by simp [powL]
theorem conT_mono {d : Nat} {f : Addr} {vs : List Value} {kw : List (Str × Value)} {R R' : Obj → Prop} (c : ConT d f vs kw R) (h : ∀ o, R o → R' o) : ConT d f vs kw R' := by
  intro prog w mean mg mb dp un gd cn cs a ccd cl outer A₀ base h₀ L m news s Q E B F X N T hk hdp hun hret
  exact c prog w mean mg mb dp un gd cn cs a ccd cl outer A₀ base h₀ L m news s Q E B F X N T hk hdp hun fun x o h' tk' hR => hret x o h' tk' (h o hR)
abbrev PowO (n : Nat) (o : Obj) : Prop := ∃ (xs : List Value) (c : Nat), o = ({ cls := .type "list", data := .seq xs.toArray c } : Obj) ∧ IntsAre xs (powL n)
theorem con_pow (n : Int) (k : Nat) (t : Tok) (e : n = (k : Int)) (h1 : 4 ≤ k) (h2 : k ≤ 7) : ConT 2 195 [.int n t] [] (PowO k) := by
  subst e
  have h : k = 4 ∨ k = 5 ∨ k = 6 ∨ k = 7 := by omega
  rcases h with rfl | rfl | rfl | rfl
  · refine conT_mono (con_pow4 t) ?_
    rintro o ⟨t0, t1, t2, t3, rfl⟩
    exact ⟨[_, _, _, _], _, rfl, .cons 1 _ (.cons 256 _ (.cons 65536 _ (.cons 16777216 _ .nil)))⟩
  · refine conT_mono (con_pow5 t) ?_
    rintro o ⟨t0, t1, t2, t3, t4, rfl⟩
    exact ⟨[_, _, _, _, _], _, rfl, .cons 1 _ (.cons 256 _ (.cons 65536 _ (.cons 16777216 _ (.cons 4294967296 _ .nil))))⟩
  · refine conT_mono (con_pow6 t) ?_
    rintro o ⟨t0, t1, t2, t3, t4, t5, rfl⟩
    exact ⟨[_, _, _, _, _, _], _, rfl, .cons 1 _ (.cons 256 _ (.cons 65536 _ (.cons 16777216 _ (.cons 4294967296 _ (.cons 1099511627776 _ .nil)))))⟩
  · refine conT_mono (con_pow7 t) ?_
    rintro o ⟨t0, t1, t2, t3, t4, t5, t6, rfl⟩
    exact ⟨[_, _, _, _, _, _, _], _, rfl, .cons 1 _ (.cons 256 _ (.cons 65536 _ (.cons 16777216 _ (.cons 4294967296 _ (.cons 1099511627776 _ (.cons 281474976710656 _ .nil))))))⟩
theorem con_powA (n : Int) (l : List UInt8) (t : Tok) (e : n = ((l.length : Nat) : Int)) (h1 : 4 ≤ l.length) (h2 : l.length ≤ 6) : ConT 2 195 [.int n t] [] (PowO l.length) := con_pow n l.length t e h1 (by omega)
theorem con_powB (n : Int) (l : List UInt8) (t : Tok) (e : n = ((l.length : Nat) : Int) + 1) (h1 : 4 ≤ l.length) (h2 : l.length ≤ 6) : ConT 2 195 [.int n t] [] (PowO (l.length + 1)) := con_pow n (l.length + 1) t (by rw [e]; rfl) (by omega) (by omega)
theorem pow_bits {n : Nat} (h : n ≤ 7) : ∀ p ∈ powL n, Builtin.Int.intBits p ≤ 2 ^ 20 := by
  intro p hp
  obtain ⟨i, hi, rfl⟩ := List.mem_map.mp hp
  have hi' : i < n := List.mem_range.mp hi
  have : i = 0 ∨ i = 1 ∨ i = 2 ∨ i = 3 ∨ i = 4 ∨ i = 5 ∨ i = 6 := by omega
  rcases this with rfl | rfl | rfl | rfl | rfl | rfl | rfl <;> decide
theorem valB_fold : ∀ (l : List UInt8) (a : Nat), l.foldl (fun acc c => acc * 256 + c.toNat) a = a * 256 ^ l.length + valB l
  | [], a => by simp [valB]
  | c :: r, a => by
    have h1 := valB_fold r (a * 256 + c.toNat)
    have h2 := valB_fold r (0 * 256 + c.toNat)
    show r.foldl _ (a * 256 + c.toNat) = _
    have h3 : valB (c :: r) = r.foldl (fun acc c => acc * 256 + c.toNat) (0 * 256 + c.toNat) := rfl
    rw [h1, h3, h2, List.length_cons, Nat.pow_succ, Nat.zero_mul, Nat.zero_add, Nat.add_mul, Nat.mul_assoc, Nat.mul_comm 256 (256 ^ r.length), Nat.add_assoc]
theorem valB_cons (c : UInt8) (r : List UInt8) : valB (c :: r) = c.toNat * 256 ^ r.length + valB r := by
  have h3 : valB (c :: r) = r.foldl (fun acc c => acc * 256 + c.toNat) (0 * 256 + c.toNat) := rfl
  rw [h3, valB_fold, Nat.zero_mul, Nat.zero_add]
theorem sumZ : ∀ (l : List UInt8) (n : Nat), l.length ≤ n → ((List.range l.length).map fun i => (((l.getD (l.length - 1 - i) 0).toNat : Nat) : Int) * (256 : Int) ^ i).sum = (valB l : Int)
  | [], _, _ => rfl
  | c :: r, n, h => by
    have ih := sumZ r (n - 1) (by rw [List.length_cons] at h; omega)
    rw [List.length_cons, List.range_succ, List.map_append, List.sum_append]
    have e : ((List.range r.length).map fun i => ((((c :: r).getD (r.length + 1 - 1 - i) 0).toNat : Nat) : Int) * (256 : Int) ^ i) = ((List.range r.length).map fun i => (((r.getD (r.length - 1 - i) 0).toNat : Nat) : Int) * (256 : Int) ^ i) := by
      refine List.map_congr_left fun i hi => ?_
      have hi' : i < r.length := List.mem_range.mp hi
      rw [show r.length + 1 - 1 - i = (r.length - 1 - i) + 1 by omega, List.getD_cons_succ]
    rw [e, ih]
    simp only [List.map_cons, List.map_nil, List.sum_cons, List.sum_nil, Int.add_zero]
    rw [show r.length + 1 - 1 - r.length = 0 by omega, List.getD_cons_zero, valB_cons]
    rw [Int.natCast_add, Int.natCast_mul, Int.natCast_pow]
    exact Int.add_comm _ _
theorem powL_getD {n i : Nat} (h : i < n) : (powL n).getD i 0 = (256 : Int) ^ i := by
  unfold powL
  rw [List.getD_eq_getElem?_getD, List.getElem?_map, List.getElem?_range h]
  rfl
theorem prodZ_sum (l : List UInt8) : (prodZ l (powL l.length)).sum = (valB l : Int) := by
  rw [← sumZ l l.length (Nat.le_refl _)]
  unfold prodZ
  congr 1
  refine List.map_congr_left fun i hi => ?_
  rw [powL_getD (List.mem_range.mp hi)]
theorem neg_in (n : Nat) (h : n < 256) : ∀ k ∈ [(2 : Int), (n : Int)], 0 ≤ k ∧ k < 256 := by
  intro k hk
  simp only [List.mem_cons, List.not_mem_nil, or_false] at hk
  rcases hk with rfl | rfl <;> omega
theorem neg_eq (l : List UInt8) : (valB l : Int) - 256 ^ l.length = (valB l : Int) - (powL (l.length + 1)).getD l.length 0 := by rw [powL_getD (Nat.lt_succ_self _)]
theorem fmod256 (x : Int) (t : Tok) : ∃ (f : Nat) (t' : Tok), f < 256 ∧ Value.int (x.fmod 256) t = .int ((f : Nat) : Int) t' := by
  have h1 : 0 ≤ x.fmod 256 := Int.fmod_nonneg_of_pos _ (by decide)
  have h2 : x.fmod 256 < 256 := Int.fmod_lt_of_pos _ (by decide)
  exact ⟨(x.fmod 256).toNat, t, by omega, by rw [Int.toNat_of_nonneg h1]⟩
theorem item_last {prog : Program} {w : World} {A : Around} {E : Value → Shared → Prop} {s : Shared} {value slice : Expr} {l : Addr} {u : Tok} {xs : List Value} {ps : List Int} {n : Nat} {Q : Value → Shared → Prop} (hl : s.heap.IsList l xs.toArray) (hi : IntsAre xs ps) (hn : ps.length = n + 1) (hz : n ≤ 1000)
    (h : ∀ t, Q (.int (ps.getD n 0) t) s) (hs : subscripted slice false (.ref l) (.int (-1) u) = operate [.ref l, .int (-1) u] (getItem (.ref l) (.int (-1) u)) := by with_unfolding_all rfl) :
    wpAny (model prog w) A (subscriptTail value slice (.ref l) (.int (-1) u)) Q E s := by
  have hx : xs.toArray.size = n + 1 := by rw [List.size_toArray, hi.length, hn]
  have hx' : xs.length = n + 1 := by simpa using hx
  obtain ⟨t, ht⟩ := ints_get hi n (xs[n]'(by omega)) (List.getElem?_eq_getElem (by omega))
  refine tail_any hl.typeIs slot_list_getitem.lookup (wpAny_getItem_list_neg hl (by decide) (by omega) (by decide) (x := .int (ps.getD n 0) t) ?_ (h t)) hs
  rw [hx, show ((-1 : Int) + ((n + 1 : Nat) : Int)).toNat = n by omega, ← ht, List.getElem?_toArray]
  exact List.getElem?_eq_getElem (by omega)
theorem con_remint_n (k : UInt8) (o l : List UInt8) (t : Tok) (e : l = 2 :: k :: o) (hk : k.toNat = o.length) (h0 : 4 ≤ o.length) (h1 : o.length ≤ 6) (hh : 128 ≤ (o.headD 0).toNat) :
    ConT 8 146 [.bytes l.toArray t] [] (fun z => ∃ t1 t2, tupO (.int ((valB o : Int) - 256 ^ o.length) t1) (.bytes ([] : List UInt8).toArray t2) z) := by
  have c := con_remint k o [] t hk (by omega) (by omega) (by simp only [List.length_cons, List.length_append, List.length_nil]; omega)
  rw [if_pos hh, List.append_nil] at c
  rw [e]
  exact c
theorem con_remint_nb (k : UInt8) (o l : List UInt8) (t : Tok) (e : l = 2 :: k :: o) (hk : k.toNat = o.length) (h0 : 4 ≤ o.length) (h1 : o.length ≤ 6) :
    ConT 8 146 [.bytes l.toArray t] [(Str.ofString "use_broken_open_ssl_mechanism", .bool true)] (fun z => ∃ t1 t2, tupO (.int (valB o : Int) t1) (.bytes ([] : List UInt8).toArray t2) z) := by
  have c := con_remint_b k o [] t hk (by omega) (by omega) (by simp only [List.length_cons, List.length_append, List.length_nil]; omega)
  rw [List.append_nil] at c
  rw [e]
  exact c
end Mine
end

noncomputable section
open PySem PySem.W PyProof.Rows
namespace Mine
theorem ConSN {d : Nat} {f : Addr} {vs : List Value} {v : Value} (C : ConS d f vs v)
  {prog : Program} {w : World} {mean : ExcName → Option Value} {mg mb : Str → Option Value} {dp un : Nat} {gd : Option (List Code)} {cn : Str} {cs : Scope} {a : Addr} {ccd : Value} {A₀ : Around} {h₀ : Heap} {L : Addr}
    {m : Str → Option Value} {news : List (Addr × Obj)} {s : Shared} {Q E : Value → Shared → Prop}
    (B : Below A₀ h₀ [] h₀) (F : Fr h₀ L s.heap m) (X : (hd.heap_39 w.params).In h₀) (N : News h₀ L s.heap news) (T : Top hd.view_39 (looseW hd.view_39 LS) mean mg mb h₀) (hk : cs.kind = .function) (hdp : dp + d < recursionLimit) (hu : un + 20 * d < cLine)
    (h : ∀ h' tk', Fr h₀ L h' m → News h₀ L h' news → Q v { s with heap := h', toks := tk' }) :
    wpAny (model prog w) (ktrTop dp un gd cn cs L a ccd [] []) (call (.ref f) vs) Q E s := C _ _ _ _ _ _ _ _ _ _ _ _ _ _ _ _ _ _ _ _ _ B X T F X N T hk hdp hu h
theorem u8_ne {f k : Nat} (hf : f < 256) (hk : k < 256) (h : ¬ (f : Int) = (k : Int)) : f.toUInt8 ≠ k.toUInt8 := by
  intro e
  have := congrArg UInt8.toNat e
  rw [toNat_of hf, toNat_of hk] at this
  omega
theorem con_ref_intE (f : Nat) (x l : List UInt8) (t : Tok) (e : x = ((f : Nat) : Int).toNat.toUInt8 :: l) (hf : f < 256) (h : ¬ ((f : Nat) : Int) = 2) (hz : l.length ≤ 4000) : ConS 14 188 [.ref 146, .bytes x.toArray t] (.bool true) := by
  rw [e, Int.toNat_natCast]
  exact con_ref_int f.toUInt8 l t (u8_ne (k := 2) hf (by decide) h) (by rw [List.length_cons]; omega)
theorem con_ref_seqE (f : Nat) (x l : List UInt8) (t : Tok) (e : x = ((f : Nat) : Int).toNat.toUInt8 :: l) (hf : f < 256) (h : ¬ ((f : Nat) : Int) = 48) (hz : l.length ≤ 3000) : ConS 22 188 [.ref 138, .bytes x.toArray t] (.bool true) := by
  rw [e, Int.toNat_natCast]
  exact con_ref_seq f.toUInt8 l t (u8_ne (k := 48) hf (by decide) h) (by rw [List.length_cons]; omega)
theorem cut_ok (x : Int) {n : Nat} (t : Tok) (h : 4 ≤ n) : ∃ (j : Nat) (t' : Tok), j < n ∧ Value.int (2 + x.fmod (n : Int)) t = .int ((2 + j : Nat) : Int) t' := by
  have h1 : 0 ≤ x.fmod (n : Int) := Int.fmod_nonneg_of_pos _ (by omega)
  have h2 : x.fmod (n : Int) < (n : Int) := Int.fmod_lt_of_pos _ (by omega)
  refine ⟨(x.fmod (n : Int)).toNat, t, by omega, ?_⟩
  congr 1
  omega
theorem con_ref_cutE (j : Nat) (o x : List UInt8) (t : Tok) (e : x = (2 :: o.length.toUInt8 :: o).take (((2 + j : Nat) : Int)).toNat) (hj : j < o.length) (ho : o.length ≤ 6) : ConS 22 188 [.ref 146, .bytes x.toArray t] (.bool true) := by
  rw [e, Int.toNat_natCast, Nat.add_comm 2 j, List.take_succ_cons, List.take_succ_cons]
  have hk : (o.length.toUInt8).toNat = o.length := toNat_of (by omega)
  exact con_ref_cut _ _ t (by rw [hk, List.length_take]; omega) (by rw [hk]; omega)
theorem in130 (x : Int) : ∀ k ∈ [130 + x.fmod 100], 0 ≤ k ∧ k < 256 := by
  have h1 : 0 ≤ x.fmod 100 := Int.fmod_nonneg_of_pos _ (by decide)
  have h2 : x.fmod 100 < 100 := Int.fmod_lt_of_pos _ (by decide)
  intro k hk
  rw [List.mem_singleton.mp hk]
  omega
theorem con_ref_lenE (y : Int) (x l : List UInt8) (t : Tok) (e : x = toB [130 + y.fmod 100] ++ l) (hl : l.length ≤ 1) : ConS 14 188 [.ref 160, .bytes x.toArray t] (.bool true) := by
  have h1 : 0 ≤ y.fmod 100 := Int.fmod_nonneg_of_pos _ (by decide)
  have h2 : y.fmod 100 < 100 := Int.fmod_lt_of_pos _ (by decide)
  have e2 : x = (130 + y.fmod 100).toNat.toUInt8 :: l := e
  rw [e2]
  exact con_ref_len _ (2 + (y.fmod 100).toNat) l t (by rw [toNat_of (by omega)]; omega) (by omega) (by omega)
end Mine
end

noncomputable section
open PySem PySem.W PyProof.Rows
namespace Mine
theorem freshL1 : True := by
  k_with_none
  w_top off
  trivial
def GoOn : Prop := True
theorem fmod_many (x : Int) : ∃ m : Nat, x.fmod 70001 = (m : Int) ∧ m ≤ 70000 := by
  have h1 : 0 ≤ x.fmod 70001 := Int.fmod_nonneg_of_pos _ (by decide)
  have h2 : x.fmod 70001 < 70001 := Int.fmod_lt_of_pos _ (by decide)
  exact ⟨(x.fmod 70001).toNat, by omega, by omega⟩
abbrev Bt (n : Nat) : Prop := Builtin.Int.intBits ((n : Nat) : Int) ≤ 2 ^ 20
theorem bt_of {w : List Int} (hL : (PyData.list (w.map PyData.int)).layable0 = true) : ∀ n ∈ (w ++ [128, 0, 5]).map Int.natAbs, Bt n := by
  intro n hn
  obtain ⟨k, hk, rfl⟩ := List.mem_map.mp hn
  have e : Builtin.Int.intBits ((k.natAbs : Nat) : Int) = Builtin.Int.intBits k := by unfold Builtin.Int.intBits; rw [Int.natAbs_natCast]; by_cases h : k = 0 <;> simp [h]
  show Builtin.Int.intBits _ ≤ _
  rw [e]
  rcases List.mem_append.mp hk with hk | hk
  · exact PyData.bits_item_of_ints hL hk
  · simp only [List.mem_cons, List.not_mem_nil, or_false] at hk
    rcases hk with rfl | rfl | rfl <;> decide
theorem ints_in {ys : List Value} {w : List Int} (hL : (PyData.list (w.map PyData.int)).layable0 = true) (h : IntsAre ys (List.map (fun k' : Int => if k' < 0 then -k' else k') (w ++ [128, 0, 5]))) : ∃ ns : List Nat, IntsAre ys (ns.map fun n : Nat => (n : Int)) ∧ 3 ≤ ns.length ∧ ∀ n ∈ ns, Bt n := by
  refine ⟨(w ++ [128, 0, 5]).map Int.natAbs, ?_, by simp, bt_of hL⟩
  rw [List.map_map]
  have e : (fun k' : Int => if k' < 0 then -k' else k') = (fun n : Nat => (n : Int)) ∘ Int.natAbs := by
    funext k
    show (if k < 0 then -k else k) = ((k.natAbs : Nat) : Int)
    split <;> omega
  rw [← e]
  exact h
theorem ints_one {ys : List Value} {n : Nat} {ns : List Nat} (h : IntsAre ys ((n :: ns).map fun n : Nat => (n : Int))) : ∃ t ys', ys = .int (n : Int) t :: ys' ∧ IntsAre ys' (ns.map fun n : Nat => (n : Int)) := h.cons_inv
theorem ints_cases {ys : List Value} {w : List Int} (hL : (PyData.list (w.map PyData.int)).layable0 = true) (h : IntsAre ys (List.map (fun k' : Int => if k' < 0 then -k' else k') (w ++ [128, 0, 5]))) :
    (∃ (a b c : Nat) (t0 t1 t2 : Tok), Bt a ∧ Bt b ∧ Bt c ∧ ys = [.int (a : Int) t0, .int (b : Int) t1, .int (c : Int) t2]) ∨ (∃ (a b c d : Nat) (t0 t1 t2 t3 : Tok), Bt a ∧ Bt b ∧ Bt c ∧ Bt d ∧ ys = [.int (a : Int) t0, .int (b : Int) t1, .int (c : Int) t2, .int (d : Int) t3]) ∨
    (∃ (a b c d e : Nat) (t0 t1 t2 t3 t4 : Tok) (r : List Value), Bt a ∧ Bt b ∧ Bt c ∧ Bt d ∧ Bt e ∧ r.length ≤ w.length ∧ ys = .int (a : Int) t0 :: .int (b : Int) t1 :: .int (c : Int) t2 :: .int (d : Int) t3 :: .int (e : Int) t4 :: r) := by
  have hlen : ys.length = w.length + 3 := by rw [h.length]; simp
  obtain ⟨ns, h0, hl, hb⟩ := ints_in hL h
  rcases ns with _ | ⟨a, _ | ⟨b, _ | ⟨c, ns⟩⟩⟩
  · simp at hl
  · simp at hl
  · simp at hl
  obtain ⟨t0, y0, e0, h1⟩ := ints_one h0
  obtain ⟨t1, y1, e1, h2⟩ := ints_one h1
  obtain ⟨t2, y2, e2, h3⟩ := ints_one h2
  have ba := hb a (by simp)
  have bb := hb b (by simp)
  have bc := hb c (by simp)
  rcases ns with _ | ⟨d, ns⟩
  · have e3 := h3.nil_inv
    exact .inl ⟨a, b, c, t0, t1, t2, ba, bb, bc, by rw [e0, e1, e2, e3]⟩
  obtain ⟨t3, y3, e3, h4⟩ := ints_one h3
  have bd := hb d (by simp)
  rcases ns with _ | ⟨e, ns⟩
  · have e4 := h4.nil_inv
    exact .inr (.inl ⟨a, b, c, d, t0, t1, t2, t3, ba, bb, bc, bd, by rw [e0, e1, e2, e3, e4]⟩)
  obtain ⟨t4, y4, e4, _⟩ := ints_one h4
  have hy : y4.length ≤ w.length := by rw [e0, e1, e2, e3, e4] at hlen; simp only [List.length_cons] at hlen; omega
  exact .inr (.inr ⟨a, b, c, d, e, t0, t1, t2, t3, t4, y4, ba, bb, bc, bd, hb e (by simp), hy, by rw [e0, e1, e2, e3, e4]⟩)
theorem pick5 (a b c d e : Value) (r : List Value) : (slicePick (a :: b :: c :: d :: e :: r).toArray none (some 5) none).toList = [a, b, c, d, e] := by
  have h : sliceBounds none (some 5) none (a :: b :: c :: d :: e :: r).toArray.size = (((0 : Nat) : Int), ((5 : Nat) : Int), 1) := by
    simp only [sliceBounds, Option.getD_none, show (1 : Int) > 0 by decide, if_true, if_neg (show ¬ ((5 : Int) < 0) by omega), List.size_toArray, List.length_cons]
    congr 1
    congr 1
    omega
  rw [kmk_pick_nat _ h]
  rfl
theorem vcases {xs : List Value} {vs : List Nat} (h : IntsAre xs (vs.map fun n : Nat => (n : Int))) (h3 : 3 ≤ vs.length) (h5 : vs.length ≤ 5) (hb : ∀ v ∈ vs, v < 10 ^ 60) :
    (∃ (v0 v1 v2 : Nat) (u0 u1 u2 : Tok), v0 < 10 ^ 60 ∧ v1 < 10 ^ 60 ∧ v2 < 10 ^ 60 ∧ vs = [v0, v1, v2] ∧ xs = [.int (v0 : Int) u0, .int (v1 : Int) u1, .int (v2 : Int) u2]) ∨
    (∃ (v0 v1 v2 v3 : Nat) (u0 u1 u2 u3 : Tok), v0 < 10 ^ 60 ∧ v1 < 10 ^ 60 ∧ v2 < 10 ^ 60 ∧ v3 < 10 ^ 60 ∧ vs = [v0, v1, v2, v3] ∧ xs = [.int (v0 : Int) u0, .int (v1 : Int) u1, .int (v2 : Int) u2, .int (v3 : Int) u3]) ∨
    (∃ (v0 v1 v2 v3 v4 : Nat) (u0 u1 u2 u3 u4 : Tok), v0 < 10 ^ 60 ∧ v1 < 10 ^ 60 ∧ v2 < 10 ^ 60 ∧ v3 < 10 ^ 60 ∧ v4 < 10 ^ 60 ∧ vs = [v0, v1, v2, v3, v4] ∧ xs = [.int (v0 : Int) u0, .int (v1 : Int) u1, .int (v2 : Int) u2, .int (v3 : Int) u3, .int (v4 : Int) u4]) := by
  rcases vs with _ | ⟨v0, _ | ⟨v1, _ | ⟨v2, vs⟩⟩⟩
  · simp at h3
  · simp at h3
  · simp at h3
  obtain ⟨u0, y0, e0, h⟩ := ints_one h
  obtain ⟨u1, y1, e1, h⟩ := ints_one h
  obtain ⟨u2, y2, e2, h⟩ := ints_one h
  have b0 := hb v0 (by simp)
  have b1 := hb v1 (by simp)
  have b2 := hb v2 (by simp)
  rcases vs with _ | ⟨v3, vs⟩
  · exact .inl ⟨v0, v1, v2, u0, u1, u2, b0, b1, b2, rfl, by rw [e0, e1, e2, h.nil_inv]⟩
  obtain ⟨u3, y3, e3, h⟩ := ints_one h
  have b3 := hb v3 (by simp)
  rcases vs with _ | ⟨v4, vs⟩
  · exact .inr (.inl ⟨v0, v1, v2, v3, u0, u1, u2, u3, b0, b1, b2, b3, rfl, by rw [e0, e1, e2, e3, h.nil_inv]⟩)
  obtain ⟨u4, y4, e4, h⟩ := ints_one h
  have b4 := hb v4 (by simp)
  rcases vs with _ | ⟨v5, vs⟩
  · exact .inr (.inr ⟨v0, v1, v2, v3, v4, u0, u1, u2, u3, u4, b0, b1, b2, b3, b4, rfl, by rw [e0, e1, e2, e3, e4, h.nil_inv]⟩)
  · simp at h5
theorem bOne {vs : List Value} {l : List UInt8} {ls : List (List UInt8)} (h : BytesAre vs (l :: ls)) : ∃ t vs', vs = .bytes l.toArray t :: vs' ∧ BytesAre vs' ls := by
  cases h with | cons h => exact ⟨_, _, rfl, h⟩
theorem bNil {vs : List Value} (h : BytesAre vs []) : vs = [] := by cases h; rfl
theorem bytes3 {vs : List Value} {a b c : List UInt8} (h : BytesAre vs [a, b, c]) : ∃ t0 t1 t2, vs = [.bytes a.toArray t0, .bytes b.toArray t1, .bytes c.toArray t2] := by
  obtain ⟨t0, y0, e0, h⟩ := bOne h
  obtain ⟨t1, y1, e1, h⟩ := bOne h
  obtain ⟨t2, y2, e2, h⟩ := bOne h
  exact ⟨t0, t1, t2, by rw [e0, e1, e2, bNil h]⟩
theorem bytes4 {vs : List Value} {a b c d : List UInt8} (h : BytesAre vs [a, b, c, d]) : ∃ t0 t1 t2 t3, vs = [.bytes a.toArray t0, .bytes b.toArray t1, .bytes c.toArray t2, .bytes d.toArray t3] := by
  obtain ⟨t0, y0, e0, h⟩ := bOne h
  obtain ⟨t1, t2, t3, e1⟩ := bytes3 h
  exact ⟨t0, t1, t2, t3, by rw [e0, e1]⟩
theorem bytes5 {vs : List Value} {a b c d e : List UInt8} (h : BytesAre vs [a, b, c, d, e]) : ∃ t0 t1 t2 t3 t4, vs = [.bytes a.toArray t0, .bytes b.toArray t1, .bytes c.toArray t2, .bytes d.toArray t3, .bytes e.toArray t4] := by
  obtain ⟨t0, y0, e0, h⟩ := bOne h
  obtain ⟨t1, t2, t3, t4, e1⟩ := bytes4 h
  exact ⟨t0, t1, t2, t3, t4, by rw [e0, e1]⟩
theorem three {ys : List Value} {n : Nat} (h : (∃ (a b c : Nat) (t0 t1 t2 : Tok), Bt a ∧ Bt b ∧ Bt c ∧ ys = [.int (a : Int) t0, .int (b : Int) t1, .int (c : Int) t2]) ∨ (∃ (a b c d : Nat) (t0 t1 t2 t3 : Tok), Bt a ∧ Bt b ∧ Bt c ∧ Bt d ∧ ys = [.int (a : Int) t0, .int (b : Int) t1, .int (c : Int) t2, .int (d : Int) t3]) ∨
    (∃ (a b c d e : Nat) (t0 t1 t2 t3 t4 : Tok) (r : List Value), Bt a ∧ Bt b ∧ Bt c ∧ Bt d ∧ Bt e ∧ r.length ≤ n ∧ ys = .int (a : Int) t0 :: .int (b : Int) t1 :: .int (c : Int) t2 :: .int (d : Int) t3 :: .int (e : Int) t4 :: r)) :
    ∃ (a b c : Nat) (t0 t1 t2 : Tok) (r : List Value), ys = .int (a : Int) t0 :: .int (b : Int) t1 :: .int (c : Int) t2 :: r := by
  rcases h with ⟨a, b, c, t0, t1, t2, _, _, _, rfl⟩ | ⟨a, b, c, d, t0, t1, t2, t3, _, _, _, _, rfl⟩ | ⟨a, b, c, d, e, t0, t1, t2, t3, t4, r, _, _, _, _, _, _, rfl⟩
  · exact ⟨a, b, c, t0, t1, t2, _, rfl⟩
  · exact ⟨a, b, c, t0, t1, t2, _, rfl⟩
  · exact ⟨a, b, c, t0, t1, t2, _, rfl⟩
theorem ne_same {prog : Program} {w : World} {A : Around} {E : Value → Shared → Prop} {s : Shared} {l c : List UInt8} {t u : Tok} {Q : Value → Shared → Prop} (e : l = c) (h : Q (.bool false) s) : wpAny (model prog w) A (compareOp .NotEq (.bytes l.toArray t) (.bytes c.toArray u)) Q E s := by
  subst e
  refine ne_L ?_
  simpa using h
theorem vals3 {v0 v1 v2 : Nat} {u0 u1 u2 : Tok} (h0 : v0 < 10 ^ 60) (h1 : v1 < 10 ^ 60) (h2 : v2 < 10 ^ 60) : ∃ (vs : List Nat) (xs : List Value), LCg.lst [.int (v0 : Int) u0, .int (v1 : Int) u1, .int (v2 : Int) u2] = LCg.lst xs ∧ IntsAre xs (vs.map fun n : Nat => (n : Int)) ∧ 3 ≤ vs.length ∧ vs.length ≤ 5 ∧ ∀ v ∈ vs, v < 10 ^ 60 :=
  ⟨[v0, v1, v2], _, rfl, .cons _ _ (.cons _ _ (.cons _ _ .nil)), Nat.le_of_ble_eq_true rfl, Nat.le_of_ble_eq_true rfl, by simp only [List.forall_mem_cons]; exact ⟨h0, h1, h2, List.forall_mem_nil _⟩⟩
theorem vals4 {v0 v1 v2 v3 : Nat} {u0 u1 u2 u3 : Tok} (h0 : v0 < 10 ^ 60) (h1 : v1 < 10 ^ 60) (h2 : v2 < 10 ^ 60) (h3 : v3 < 10 ^ 60) : ∃ (vs : List Nat) (xs : List Value), LCg.lst [.int (v0 : Int) u0, .int (v1 : Int) u1, .int (v2 : Int) u2, .int (v3 : Int) u3] = LCg.lst xs ∧ IntsAre xs (vs.map fun n : Nat => (n : Int)) ∧ 3 ≤ vs.length ∧ vs.length ≤ 5 ∧ ∀ v ∈ vs, v < 10 ^ 60 :=
  ⟨[v0, v1, v2, v3], _, rfl, .cons _ _ (.cons _ _ (.cons _ _ (.cons _ _ .nil))), Nat.le_of_ble_eq_true rfl, Nat.le_of_ble_eq_true rfl, by simp only [List.forall_mem_cons]; exact ⟨h0, h1, h2, h3, List.forall_mem_nil _⟩⟩
theorem vals5 {v0 v1 v2 v3 v4 : Nat} {u0 u1 u2 u3 u4 : Tok} (h0 : v0 < 10 ^ 60) (h1 : v1 < 10 ^ 60) (h2 : v2 < 10 ^ 60) (h3 : v3 < 10 ^ 60) (h4 : v4 < 10 ^ 60) : ∃ (vs : List Nat) (xs : List Value), LCg.lst [.int (v0 : Int) u0, .int (v1 : Int) u1, .int (v2 : Int) u2, .int (v3 : Int) u3, .int (v4 : Int) u4] = LCg.lst xs ∧ IntsAre xs (vs.map fun n : Nat => (n : Int)) ∧ 3 ≤ vs.length ∧ vs.length ≤ 5 ∧ ∀ v ∈ vs, v < 10 ^ 60 :=
  ⟨[v0, v1, v2, v3, v4], _, rfl, .cons _ _ (.cons _ _ (.cons _ _ (.cons _ _ (.cons _ _ .nil)))), Nat.le_of_ble_eq_true rfl, Nat.le_of_ble_eq_true rfl, by simp only [List.forall_mem_cons]; exact ⟨h0, h1, h2, h3, h4, List.forall_mem_nil _⟩⟩
def ValPost (s : Shared) (y : Value) (s' : Shared) : Prop := ∃ (v : Nat) (t : Tok) (k : Nat), y = .int (v : Int) t ∧ v < 10 ^ 60 ∧ s' = { s with toks := k }
theorem join_val {M : Model} {A : Around} {E : Value → Shared → Prop} {s : Shared} {t : Sem Value} {Q : Value → Shared → Prop} (h1 : wpAny M A t (fun y s' => ValPost s y s') E s)
    (h2 : ∀ (v : Nat) (t : Tok) (k : Nat), v < 10 ^ 60 → Q (.int (v : Int) t) { s with toks := k }) : wpAny M A t Q E s :=
  wpAny_mono h1 (fun y s' h => by obtain ⟨v, t, k, rfl, hv, rfl⟩ := h; exact h2 v t k hv) fun _ _ e => e
theorem valPost_of {s : Shared} {x b : Int} {t : Tok} {k : Nat} (hb : 0 < b) (hb2 : b ≤ 10 ^ 60) : ValPost s (.int (x.fmod b) t) { s with toks := k } := by
  have h1 : 0 ≤ x.fmod b := Int.fmod_nonneg_of_pos _ hb
  have h2 : x.fmod b < b := Int.fmod_lt_of_pos _ hb
  refine ⟨(x.fmod b).toNat, t, k, by rw [Int.toNat_of_nonneg h1], ?_, rfl⟩
  have h3 : (10 : Int) ^ 60 = ((10 ^ 60 : Nat) : Int) := by decide
  rw [h3] at hb2
  omega
local macro_rules | `(tactic| walk_at "subscriptTail") => `(tactic| (k_here; (with_reducible show wpAny _ _ (subscriptTail _ _ (Value.bytes (List.toArray _) _) (Value.int _ _)) _ _ _); (refine item_L (by k_extra "size") (by k_extra "idx") (by k_extra "idx") ?_); intro _ _))
local macro_rules | `(tactic| walk_at "subscriptTail") => `(tactic| (k_here; (with_reducible show wpAny _ _ (subscriptTail _ (Expr.Slice _ _ none _) (Value.bytes (List.toArray _) _) (Value.ref _)) _ _ _); (with_reducible rename Fr _ _ _ _ => F9); (with_reducible rename News _ _ _ _ => N9); (first
  | refine slice_to (s := ⟨_, _, _, _, _⟩) F9 N9 (by k_extra "idx") (by k_extra "size") ?_
  | refine slice_from (s := ⟨_, _, _, _, _⟩) F9 N9 (by k_extra "idx") (by k_extra "size") ?_
  | refine slice_mid (s := ⟨_, _, _, _, _⟩) F9 N9 (by k_extra "idx") (by k_extra "idx") (by k_extra "size") ?_); intro h' t' tk' F' N'; (try k_extra "cut"); (try k_sweep)))
local macro_rules | `(tactic| walk_at "binaryOp Add bytes bytes") => `(tactic| (k_here; (with_reducible show wpAny _ _ (binaryOp Operator.Add (Value.bytes (List.toArray _) _) (Value.bytes (List.toArray _) _)) _ _ _); (refine add_L (by k_extra "size") ?_); intro _ _))
local macro_rules | `(tactic| walk_at "call builtin:len") => `(tactic| (k_here; (with_reducible show wpAny _ _ (call (Value.builtin "len") [Value.bytes (List.toArray _) _]) _ _ _); (refine len_L (by k_extra "size") ?_); intro _ _))
local macro_rules | `(tactic| walk_at "call builtin:ord") => `(tactic| (k_here; (with_reducible show wpAny _ _ (call (Value.builtin "ord") [Value.bytes (List.toArray _) _]) _ _ _); (refine ord_L ?_ (by k_extra "one")); intro _ _))
local macro_rules | `(tactic| walk_at "compareOp NotEq bytes bytes") => `(tactic| (k_here; (with_reducible refine ne_L ?_)))
local macro_rules | `(tactic| walk_at "compareOp Eq bytes bytes") => `(tactic| (k_here; (with_reducible refine eq_L ?_)))
local macro_rules | `(tactic| walk_at "getMethod str") => `(tactic| (k_here; with_reducible refine meth_encode ?_))
local macro_rules | `(tactic| walk_at "getMethod bytes") => `(tactic| (k_here; with_reducible refine meth_hex ?_))
local macro_rules | `(tactic| walk_at "getMethod bytes") => `(tactic| (k_here; with_reducible refine meth_starts ?_))
local macro_rules | `(tactic| walk_at "getMethod bytes") => `(tactic| (k_here; with_reducible refine meth_join ?_))
local macro_rules | `(tactic| walk_at "call builtin:str.encode") => `(tactic| (k_here; (first | refine call_encode8 (by k_extra "ascii") (by k_extra "size") ?_ | refine call_encodeA (by k_extra "ascii") (by k_extra "size") ?_); intro _ _))
local macro_rules | `(tactic| walk_at "call builtin:bytes.hex") => `(tactic| (k_here; (refine call_hex (by k_extra "size") ?_); intro _ _))
local macro_rules | `(tactic| walk_at "call builtin:bytes.startswith") => `(tactic| (k_here; k_dflt (refine call_starts ?_); intro _))
local macro_rules | `(tactic| walk_at "call builtin:_struct.pack") => `(tactic| (k_here; (refine call_pack (by k_extra "idx") (by k_extra "idx") ?_); intro _ _))
local macro_rules | `(tactic| walk_at "call type:type") => `(tactic| (k_here; k_dflt (first | refine call_type_of (typeIs_bytes _ _ _) (by decide +kernel) ?_ | refine call_type_of (typeIs_str _ _ _) (by decide +kernel) ?_ | refine call_type_of (typeIs_int _ _ _) (by decide +kernel) ?_)))
local macro_rules | `(tactic| walk_at "compareOp Is") => `(tactic| (k_here; (with_reducible show wpAny _ _ (compareOp CmpOp.Is (Value.type _) (Value.type _)) _ _ _); (first | refine wpAny_is_self (by rfl) ?_ | refine wpAny_is_other (by rfl) (by decide) ?_)))
local macro_rules | `(tactic| walk_at "compareOp IsNot") => `(tactic| (k_here; (with_reducible show wpAny _ _ (compareOp CmpOp.IsNot (Value.type _) (Value.type _)) _ _ _); (first | refine wpAny_isNot_self (by rfl) ?_ | refine wpAny_isNot_other (by rfl) (by decide) ?_)))
local macro_rules | `(tactic| walk_at "call type:bytes") => `(tactic| (k_here; (with_reducible show wpAny _ _ (call (Value.type "bytes") [Value.ref _]) _ _ _); k_dflt (refine' make_L ?F ?N ?h ?l ?i ?r ?n ?_; (case F => k_asm); (case N => k_asm); (case h => rfl); (case l => kba_isList); (case i => kba_listInts); (case r => k_extra "in"); (case n => k_extra "size")); intro h' t' tk' F' N'; (try k_sweep)))
local macro_rules | `(tactic| passes_own) => `(tactic| exact PassesOwn.leaving)
local macro_rules | `(tactic| walk_at "binaryOp Mod str int") => `(tactic| (k_here; (with_reducible show wpAny _ _ (binaryOp Operator.Mod (Value.str _ _) (Value.int _ _)) _ _ _); (refine mod_X (by k_extra "idx") (by k_extra "hexlen") (by k_extra "log") ?_); intro _ _))
local macro_rules | `(tactic| walk_at "call builtin:len") => `(tactic| (k_here; (with_reducible show wpAny _ _ (call (Value.builtin "len") [Value.str _ _]) _ _ _); (refine len_S (by k_extra "slen") ?_); intro _ _))
local macro_rules | `(tactic| walk_at "binaryOp Add str str") => `(tactic| (k_here; (with_reducible show wpAny _ _ (binaryOp Operator.Add (Value.str _ _) (Value.str _ _)) _ _ _); (refine add_S0 (by k_extra "slen") ?_); intro _ _))
local macro_rules | `(tactic| walk_at "binaryOp BitAnd int int") => `(tactic| (k_here; (refine and_at (by k_extra "and") ?_); intro _ _))
local macro_rules | `(tactic| walk_at "call type:int") => `(tactic| (k_here; (with_reducible show wpAny _ _ (call (Value.type "int") [Value.bytes (List.toArray _) _, Value.int _ _]) _ _ _); k_dflt (refine int16_L (by k_extra "size") (by k_extra "size") ?_); intro _ _))
local macro_rules | `(tactic| walk_at "call builtin:bytes.startswith") => `(tactic| (k_here; k_dflt (refine starts_at (by k_extra "starts") ?_); intro _))
local macro_rules | `(tactic| walk_at "call builtin:bytes.join") => `(tactic| (k_here; k_dflt (refine' join_L ?F ?N ?m ?T ?c ?d ?p ?z ?_; (case F => k_asm); (case N => k_asm); (case m => k_mem); (case c => exact rfl); (case T => first | exact .inl rfl | exact .inr rfl); (case d => exact rfl); (case p => k_extra "pieces"); (case z => k_extra "size")); intro _ _))
local macro_rules | `(tactic| walk_at "eval ListComp") => `(tactic| (k_here; lcg_look; (with_reducible show wpAny _ _ (eval (Expr.ListComp _ [⟨_, Expr.Name "encoded_pieces" _, _, _⟩] _ _) _) _ _ _); k_dflt (refine ListComp_T (F₀ := by k_asm) (by rfl) (by decide) (by rfl) (by decide) (by rfl) ?_)))
local macro_rules | `(tactic| walk_at "CompTup") => `(tactic| (k_here; k_dflt (refine CompTup.ledger (by rfl) (by k_asm) (by k_asm) (by k_mem) (by first | size_fits | exact Nat.le_of_ble_eq_true rfl) ?_); intro g'; lcg_lit))
local macro_rules | `(tactic| lcg_src) => `(tactic| exact ⟨_, by k_mem, rfl, _, rfl⟩)
local macro_rules | `(tactic| walk_at "CompEnd") => `(tactic| ((with_reducible rename Fr _ _ _ _ => F9); (with_reducible rename News _ _ _ _ => N9); (with_reducible rename LCg.Off3 _ _ _ _ ∧ _ => o9); refine ⟨_, _, _, rfl, F9, N9, o9, by lcg_src, ?_⟩))
local macro_rules | `(tactic| walk_at "CompEnd") => `(tactic| ((with_reducible rename Fr _ _ _ _ => F9); (with_reducible rename News _ _ _ _ => N9); (with_reducible rename _ ∧ LCg.Off3 _ _ _ _ => o9); refine ⟨_, _, _, rfl, F9, N9, o9, by lcg_src, ?_⟩))
local macro_rules | `(tactic| walk_at "UnrEnd") => `(tactic| ((with_reducible rename Fr _ _ _ _ => F9); (with_reducible rename News _ _ _ _ => N9); (with_reducible rename _ < _ ∧ AllLt _ _ => l9); refine' UnrEnd.intro F9 N9 _ (fun p hp => hp) ?off ?_; (case off => exact fun p hp => Nat.ne_of_lt (ktn_ltOf (by exact l9) p hp))))

local macro_rules | `(tactic| walk_at "compareOp NotEq bytes bytes") => `(tactic| (k_here; (with_reducible refine ne_same (by k_extra "eqb") ?_)))
local macro_rules | `(tactic| walk_at "eval IfExp") => `(tactic| (k_here; (fail_if_success (with_reducible show wpAny _ _ _ (fun y s' => ValPost _ y s') _ _)); refine join_val ?_ (fun v' t' k' hv' => ?_)))
local macro_rules | `(tactic| walk_at "CompRest") => `(tactic| (with_unfolding_all (refine LCg.CompRest.succ ?_; intro v' I' oI' C' oC' D' m' h' tk' E' hv' hC' hx' F' N' off' ne'; (first | lcg_open hv' | (obtain ⟨t9', hv9'⟩ := hv'; subst hv9')); (try simp only [LCg.Off3, and_true] at off'); dsimp only)))
local macro_rules | `(tactic| walk_at "binaryOp Mult int int") => `(tactic| (k_here; refine mul_int ?_ (IntMulOk.of_bits (by k_extra "bits") (by k_extra "bits"))))
local macro_rules | `(tactic| walk_at "subscriptTail Name Slice ref ref") => `(tactic| (k_here; (with_reducible show wpAny _ _ (subscriptTail _ (PySem.Expr.Slice none (some (Expr.Constant (Const.int 5) _ _)) none _) (Value.ref _) (Value.ref _)) _ _ _); k_dflt (refine' kmk_slice_lit ?F ?N ?l ?p ?q ?e ?_ ?s ?t ?z; (case F => k_asm); (case N => k_asm); (case l => kmk_list); (case p => kmk_part); (case q => kmk_part); (case e => exact pick5 _ _ _ _ _ _); (case s => with_unfolding_all rfl); (case t => kmk_pure); (case z => k_extra "r5")); intro D' h' F' N' l1; (try k_lt l1); (try k_sweep)))
local macro_rules | `(tactic| walk_at "compareOp NotEq ref ref") => `(tactic| (k_here; (with_reducible show wpAny _ _ (compareOp CmpOp.NotEq (Value.ref _) (Value.ref _)) _ _ _); k_dflt (first
  | (refine' ne_list_same ?zN ?zm ?zc ?zd ?zn ?zb ?ze ?zv ?zu ?_; (case zN => k_asm); (case zm => k_mem); (case zc => rfl); (case zd => rfl); (case zn => k_mem); (case zb => rfl); (case ze => rfl); (case zv => repeat (first | exact EqVs.nil | refine EqVs.int (by k_extra "eqi") ?_ | refine EqVs.bytes (by k_extra "eqb") ?_)); (case zu => ke_room))
  | (refine' ne_tuple_same ?zN ?zm ?zc ?zd ?zn ?zb ?ze ?zv ?zu ?_; (case zN => k_asm); (case zm => k_mem); (case zc => rfl); (case zd => rfl); (case zn => k_mem); (case zb => rfl); (case ze => rfl); (case zv => repeat (first | exact EqVs.nil | refine EqVs.int (by k_extra "eqi") ?_ | refine EqVs.bytes (by k_extra "eqb") ?_)); (case zu => ke_room)))))
local macro_rules | `(tactic| walk_at "exec For Name Name cons nil") => `(tactic| (k_here; k_newsList; (rename Fr _ _ _ _ => lF'); (with_unfolding_all refine' For_invVF lF' ?k1 ?k2 ?_; (case k1 => exact rfl); (case k2 => exact rfl); k_whole)))
local macro_rules | `(tactic| walk_at "pyIter ref") => `(tactic| ((with_reducible show wpAny _ _ (pyIter (Value.ref _)) (fun it s₂ => LoopAtV _ _ _ _ _ _ _ _ _ it s₂) _ _); k_listUnr))
local macro_rules | `(tactic| walk_at "UnrEnd") => `(tactic| k_unrEndL)
local macro_rules | `(tactic| passes_own) => `(tactic| with_reducible assumption)
local macro_rules | `(tactic| walk_at "subscriptTail") => `(tactic| (k_here; (with_reducible rename GoOn => g9); (with_reducible show wpAny _ _ (subscriptTail _ (Expr.UnaryOp _ _ _) (Value.ref _) (Value.int _ _)) _ _ _); k_dflt (refine' item_last ?zl ?zi ?zn ?zz ?_; (case zl => kmk_list); (case zi => with_reducible assumption); (case zn => exact powL_len _); (case zz => k_extra "idx")); intro _))
local macro_rules | `(tactic| walk_at "subscriptTail Call UnaryOp ref int") => `(tactic| (k_here; (with_reducible rename GoOn => g9); (with_reducible show wpAny _ _ (subscriptTail _ (Expr.UnaryOp _ _ _) (Value.ref _) (Value.int _ _)) _ _ _); k_dflt (refine' item_last ?zl ?zi ?zn ?zz ?_; (case zl => kmk_list); (case zi => with_reducible assumption); (case zn => exact powL_len _); (case zz => k_extra "idx")); intro _))
local macro_rules | `(tactic| walk_at "subscriptTail") => `(tactic| (k_here; (with_reducible rename GoOn => g9); (with_reducible show wpAny _ _ (subscriptTail _ _ (Value.ref _) (Value.int 0 _)) _ _ _); k_dflt (refine item_0 (by kmk_list) ?_)))
local macro_rules | `(tactic| walk_at "subscriptTail") => `(tactic| (k_here; (with_reducible rename GoOn => g9); (with_reducible show wpAny _ _ (subscriptTail _ _ (Value.ref _) (Value.int 1 _)) _ _ _); k_dflt (refine item_1 (by kmk_list) ?_)))
local macro_rules | `(tactic| walk_at "subscriptTail") => `(tactic| (k_here; (with_reducible rename GoOn => g9); (with_reducible show wpAny _ _ (subscriptTail _ _ (Value.ref _) (Value.int 2 _)) _ _ _); k_dflt (refine item_2 (by kmk_list) ?_)))
local macro_rules | `(tactic| walk_at "subscriptTail Name Constant ref int") => `(tactic| (k_here; (with_reducible rename GoOn => g9); (with_reducible show wpAny _ _ (subscriptTail _ _ (Value.ref _) (Value.int 0 _)) _ _ _); k_dflt (refine item_0 (by kmk_list) ?_)))
local macro_rules | `(tactic| walk_at "subscriptTail Name Constant ref int") => `(tactic| (k_here; (with_reducible rename GoOn => g9); (with_reducible show wpAny _ _ (subscriptTail _ _ (Value.ref _) (Value.int 1 _)) _ _ _); k_dflt (refine item_1 (by kmk_list) ?_)))
local macro_rules | `(tactic| walk_at "subscriptTail Name Constant ref int") => `(tactic| (k_here; (with_reducible rename GoOn => g9); (with_reducible show wpAny _ _ (subscriptTail _ _ (Value.ref _) (Value.int 2 _)) _ _ _); k_dflt (refine item_2 (by kmk_list) ?_)))
local macro_rules | `(tactic| walk_at "eval ListComp") => `(tactic| (k_here; lcp_look; k_dflt (refine ListComp_Z (by k_asm) (by with_unfolding_all rfl) (by decide) (by rfl) (by decide) (by rfl) (by rfl) (by decide) (by decide) (by decide) ?_)))
local macro_rules | `(tactic| walk_at "call type:reversed") => `(tactic| (k_here; (with_reducible show wpAny _ _ (call (Value.type _) [Value.bytes (List.toArray _) _]) _ _ _); k_dflt (refine' rev_L ?zF ?zN ?zz ?_; (case zF => k_asm); (case zN => k_asm); (case zz => k_extra "size")); intro D' h' tk' F' N' l1; (try k_lt l1); (try k_sweep)))
local macro_rules | `(tactic| walk_at "call type:zip") => `(tactic| (k_here; (with_reducible show wpAny _ _ (call (Value.type _) [Value.ref _, Value.ref _]) _ _ _); k_dflt (refine' call_zip_ready ?zF ?zN ?ze ?zo ?_; (case zF => k_asm); (case zN => k_asm); (case ze => k_ne); (case zo => repeat (first | exact List.forall_mem_nil _ | refine List.forall_mem_cons.mpr ⟨by k_ne, ?_⟩))); intro z' h' F' hR'; (try k_sweep)))
local macro_rules | `(tactic| walk_at "SrcZ") => `(tactic| (refine ⟨_, _, _, _, _, rfl, by rfl, by k_asm, by k_asm, by k_extra "size", by k_asm, by k_extra "plen", by k_extra "pbits", ?_⟩; intro D' h' tk' ys' F' N' off' hy'; (try k_sweep)))
local macro_rules | `(tactic| walk_at "ValPost") => `(tactic| (k_here; exact valPost_of (by decide) (by decide)))
local macro_rules | `(tactic| walk_at "call ref") => `(tactic| (k_here; k_dflt (refine' ConN (con_enclen _ _ (by k_extra "idx") (by k_extra "idx")) ?k1 ?k2 ?k3 ?k4 ?k5 ?kK ?kd ?ku ?_; (case k1 => k_asm); (case k2 => k_asm); (case k3 => k_asm); (case k4 => k_asm); (case k5 => k_asm); (case kK => first | exact rfl | assumption); (case kd => ktr_room); (case ku => ktr_units)); intro t' h' tk' F' N'; (try dsimp only); (try k_sweep)))
local macro_rules | `(tactic| walk_at "call ref") => `(tactic| (k_here; k_dflt (refine' ConN (con_lawlen _ _ (by k_extra "idx") (by k_extra "idx")) ?k1 ?k2 ?k3 ?k4 ?k5 ?kK ?kd ?ku ?_; (case k1 => k_asm); (case k2 => k_asm); (case k3 => k_asm); (case k4 => k_asm); (case k5 => k_asm); (case kK => first | exact rfl | assumption); (case kd => ktr_room); (case ku => ktr_units)); intro t' h' tk' F' N'; (try dsimp only); (try k_sweep)))
local macro_rules | `(tactic| walk_at "call ref") => `(tactic| (k_here; k_dflt (refine' ConN (con_encint _ _ (by k_extra "idx") (by k_extra "idx")) ?k1 ?k2 ?k3 ?k4 ?k5 ?kK ?kd ?ku ?_; (case k1 => k_asm); (case k2 => k_asm); (case k3 => k_asm); (case k4 => k_asm); (case k5 => k_asm); (case kK => first | exact rfl | assumption); (case kd => ktr_room); (case ku => ktr_units)); intro t' h' tk' F' N'; (try dsimp only); (try k_sweep)))
local macro_rules | `(tactic| walk_at "call ref") => `(tactic| (k_here; k_dflt (refine' ConN (con_lawint _ _ (by k_extra "idx") (by k_extra "idx")) ?k1 ?k2 ?k3 ?k4 ?k5 ?kK ?kd ?ku ?_; (case k1 => k_asm); (case k2 => k_asm); (case k3 => k_asm); (case k4 => k_asm); (case k5 => k_asm); (case kK => first | exact rfl | assumption); (case kd => ktr_room); (case ku => ktr_units)); intro t' h' tk' F' N'; (try dsimp only); (try k_sweep)))
local macro_rules | `(tactic| walk_at "call ref") => `(tactic| (k_here; k_dflt (refine' ConN (con_encseq0) ?k1 ?k2 ?k3 ?k4 ?k5 ?kK ?kd ?ku ?_; (case k1 => k_asm); (case k2 => k_asm); (case k3 => k_asm); (case k4 => k_asm); (case k5 => k_asm); (case kK => first | exact rfl | assumption); (case kd => ktr_room); (case ku => ktr_units)); intro t' h' tk' F' N'; (try dsimp only); (try k_sweep)))
local macro_rules | `(tactic| walk_at "call ref") => `(tactic| (k_here; k_dflt (refine' ConN (con_encseq2 _ _ _ _ (by k_extra "size") (by k_extra "size")) ?k1 ?k2 ?k3 ?k4 ?k5 ?kK ?kd ?ku ?_; (case k1 => k_asm); (case k2 => k_asm); (case k3 => k_asm); (case k4 => k_asm); (case k5 => k_asm); (case kK => first | exact rfl | assumption); (case kd => ktr_room); (case ku => ktr_units)); intro t' h' tk' F' N'; (try dsimp only); (try k_sweep)))
local macro_rules | `(tactic| walk_at "call ref") => `(tactic| (k_here; k_dflt (refine' ConN (con_encseq3 _ _ _ _ _ _ (by k_extra "size") (by k_extra "size") (by k_extra "size")) ?k1 ?k2 ?k3 ?k4 ?k5 ?kK ?kd ?ku ?_; (case k1 => k_asm); (case k2 => k_asm); (case k3 => k_asm); (case k4 => k_asm); (case k5 => k_asm); (case kK => first | exact rfl | assumption); (case kd => ktr_room); (case ku => ktr_units)); intro t' h' tk' F' N'; (try dsimp only); (try k_sweep)))
local macro_rules | `(tactic| walk_at "call ref") => `(tactic| (k_here; k_dflt (refine' ConN (con_encseq4 _ _ _ _ _ _ _ _ (by k_extra "size") (by k_extra "size") (by k_extra "size") (by k_extra "size")) ?k1 ?k2 ?k3 ?k4 ?k5 ?kK ?kd ?ku ?_; (case k1 => k_asm); (case k2 => k_asm); (case k3 => k_asm); (case k4 => k_asm); (case k5 => k_asm); (case kK => first | exact rfl | assumption); (case kd => ktr_room); (case ku => ktr_units)); intro t' h' tk' F' N'; (try dsimp only); (try k_sweep)))
local macro_rules | `(tactic| walk_at "call ref") => `(tactic| (k_here; k_dflt (refine' ConN (con_encseq5 _ _ _ _ _ _ _ _ _ _ (by k_extra "size") (by k_extra "size") (by k_extra "size") (by k_extra "size") (by k_extra "size")) ?k1 ?k2 ?k3 ?k4 ?k5 ?kK ?kd ?ku ?_; (case k1 => k_asm); (case k2 => k_asm); (case k3 => k_asm); (case k4 => k_asm); (case k5 => k_asm); (case kK => first | exact rfl | assumption); (case kd => ktr_room); (case ku => ktr_units)); intro t' h' tk' F' N'; (try dsimp only); (try k_sweep)))
local macro_rules | `(tactic| walk_at "call ref") => `(tactic| (k_here; k_dflt (refine' ConTN (con_remseq_nil _ _ _ (by k_extra "ri") (by k_extra "size")) ?k1 ?k2 ?k3 ?k4 ?k5 ?kK ?kd ?ku ?_; (case k1 => k_asm); (case k2 => k_asm); (case k3 => k_asm); (case k4 => k_asm); (case k5 => k_asm); (case kK => first | exact rfl | assumption); (case kd => ktr_room); (case ku => ktr_units)); intro x' o' h' tk' hR' F' N' l'; (obtain ⟨t1', t2', hR'⟩ := hR'); (unfold tupO at hR'); (subst hR'); (try k_lt l'); (try dsimp only); (try k_sweep)))
local macro_rules | `(tactic| walk_at "call ref") => `(tactic| (k_here; k_dflt (refine' ConTN (con_remseq _ _ _ _ (by k_extra "ri") (by k_extra "size")) ?k1 ?k2 ?k3 ?k4 ?k5 ?kK ?kd ?ku ?_; (case k1 => k_asm); (case k2 => k_asm); (case k3 => k_asm); (case k4 => k_asm); (case k5 => k_asm); (case kK => first | exact rfl | assumption); (case kd => ktr_room); (case ku => ktr_units)); intro x' o' h' tk' hR' F' N' l'; (obtain ⟨t1', t2', hR'⟩ := hR'); (unfold tupO at hR'); (subst hR'); (try k_lt l'); (try dsimp only); (try k_sweep)))
local macro_rules | `(tactic| walk_at "call ref") => `(tactic| (k_here; k_dflt (refine' ConTN (con_remint_n _ _ _ _ (by k_extra "ri") (by k_extra "tn") (by k_extra "idx") (by k_extra "idx") (by with_reducible assumption)) ?k1 ?k2 ?k3 ?k4 ?k5 ?kK ?kd ?ku ?_; (case k1 => k_asm); (case k2 => k_asm); (case k3 => k_asm); (case k4 => k_asm); (case k5 => k_asm); (case kK => first | exact rfl | assumption); (case kd => ktr_room); (case ku => ktr_units)); intro x' o' h' tk' hR' F' N' l'; (obtain ⟨t1', t2', hR'⟩ := hR'); (unfold tupO at hR'); (subst hR'); (try k_lt l'); (try dsimp only); (try k_sweep)))
local macro_rules | `(tactic| walk_at "call ref") => `(tactic| (k_here; k_dflt (refine' ConTN (con_remint_nb _ _ _ _ (by k_extra "ri") (by k_extra "tn") (by k_extra "idx") (by k_extra "idx")) ?k1 ?k2 ?k3 ?k4 ?k5 ?kK ?kd ?ku ?_; (case k1 => k_asm); (case k2 => k_asm); (case k3 => k_asm); (case k4 => k_asm); (case k5 => k_asm); (case kK => first | exact rfl | assumption); (case kd => ktr_room); (case ku => ktr_units)); intro x' o' h' tk' hR' F' N' l'; (obtain ⟨t1', t2', hR'⟩ := hR'); (unfold tupO at hR'); (subst hR'); (try k_lt l'); (try dsimp only); (try k_sweep)))
local macro_rules | `(tactic| walk_at "call ref") => `(tactic| (k_here; k_dflt (refine' ConTN (con_remint_v _ _ _ _ (by k_extra "ri") (by k_extra "idx") (by k_extra "size")) ?k1 ?k2 ?k3 ?k4 ?k5 ?kK ?kd ?ku ?_; (case k1 => k_asm); (case k2 => k_asm); (case k3 => k_asm); (case k4 => k_asm); (case k5 => k_asm); (case kK => first | exact rfl | assumption); (case kd => ktr_room); (case ku => ktr_units)); intro x' o' h' tk' hR' F' N' l'; (obtain ⟨t1', t2', hR'⟩ := hR'); (unfold tupO at hR'); (subst hR'); (try k_lt l'); (try dsimp only); (try k_sweep)))
local macro_rules | `(tactic| walk_at "call ref") => `(tactic| (k_here; k_dflt (refine' ConTN (con_rl (by k_extra "rl") (by k_extra "idx") (by k_extra "size") _) ?k1 ?k2 ?k3 ?k4 ?k5 ?kK ?kd ?ku ?_; (case k1 => k_asm); (case k2 => k_asm); (case k3 => k_asm); (case k4 => k_asm); (case k5 => k_asm); (case kK => first | exact rfl | assumption); (case kd => ktr_room); (case ku => ktr_units)); intro x' o' h' tk' hR' F' N' l'; (obtain ⟨t1', t2', hR'⟩ := hR'); (unfold tupO at hR'); (subst hR'); (try k_lt l'); (try dsimp only); (try k_sweep)))
local macro_rules | `(tactic| walk_at "execs cons") => `(tactic| (k_here; (with_reducible show wpAny _ _ (execs (Stmt.Assign [Expr.Name "length" _] _ _ :: _) _) _ _ _); (fail_if_success (with_reducible rename GoOn => g9)); refine unstop ?_))
local macro_rules | `(tactic| walk_at "call ref") => `(tactic| (k_here; (try dsimp only); (with_reducible show wpAny _ _ (call _ [Value.int (HAdd.hAdd _ _) _] _) _ _ _); k_dflt (refine' ConTN (con_powB _ _ _ rfl (by k_extra "idx") (by k_extra "idx")) ?k1 ?k2 ?k3 ?k4 ?k5 ?kK ?kd ?ku ?_; (case k1 => k_asm); (case k2 => k_asm); (case k3 => k_asm); (case k4 => k_asm); (case k5 => k_asm); (case kK => first | exact rfl | assumption); (case kd => ktr_room); (case ku => ktr_units)); intro x' o' h' tk' hR' F' N' l'; (obtain ⟨xs', c', hO', hP'⟩ := hR'); (subst hO'); (try k_lt l'); (try dsimp only); (try k_sweep)))
local macro_rules | `(tactic| walk_at "call ref") => `(tactic| (k_here; (try dsimp only); (with_reducible show wpAny _ _ (call _ [Value.int (Nat.cast (List.length _)) _] _) _ _ _); k_dflt (refine' ConTN (con_powA _ _ _ rfl (by k_extra "idx") (by k_extra "idx")) ?k1 ?k2 ?k3 ?k4 ?k5 ?kK ?kd ?ku ?_; (case k1 => k_asm); (case k2 => k_asm); (case k3 => k_asm); (case k4 => k_asm); (case k5 => k_asm); (case kK => first | exact rfl | assumption); (case kd => ktr_room); (case ku => ktr_units)); intro x' o' h' tk' hR' F' N' l'; (obtain ⟨xs', c', hO', hP'⟩ := hR'); (subst hO'); (try k_lt l'); (try dsimp only); (try k_sweep)))
local macro_rules | `(tactic| walk_at "call ref") => `(tactic| (k_here; (with_reducible show wpAny _ _ (call (Value.ref 188) [Value.ref 146, _] _) _ _ _); k_dflt (refine' ConSN (con_ref_intE _ _ _ _ (by with_reducible rfl) (by k_extra "idx") (by with_reducible assumption) (by k_extra "size")) ?k1 ?k2 ?k3 ?k4 ?k5 ?kK ?kd ?ku ?_; (case k1 => k_asm); (case k2 => k_asm); (case k3 => k_asm); (case k4 => k_asm); (case k5 => k_asm); (case kK => first | exact rfl | assumption); (case kd => ktr_room); (case ku => ktr_units)); intro h' tk' F' N'; (try dsimp only); (try k_sweep)))
local macro_rules | `(tactic| walk_at "call ref") => `(tactic| (k_here; (with_reducible show wpAny _ _ (call (Value.ref 188) [Value.ref 138, _] _) _ _ _); k_dflt (refine' ConSN (con_ref_seqE _ _ _ _ (by with_reducible rfl) (by k_extra "idx") (by with_reducible assumption) (by k_extra "size")) ?k1 ?k2 ?k3 ?k4 ?k5 ?kK ?kd ?ku ?_; (case k1 => k_asm); (case k2 => k_asm); (case k3 => k_asm); (case k4 => k_asm); (case k5 => k_asm); (case kK => first | exact rfl | assumption); (case kd => ktr_room); (case ku => ktr_units)); intro h' tk' F' N'; (try dsimp only); (try k_sweep)))
local macro_rules | `(tactic| walk_at "call ref") => `(tactic| (k_here; (with_reducible show wpAny _ _ (call (Value.ref 188) [Value.ref 146, _] _) _ _ _); k_dflt (refine' ConSN (con_ref_cutE _ _ _ _ (by with_reducible rfl) (by k_extra "idx") (by k_extra "idx")) ?k1 ?k2 ?k3 ?k4 ?k5 ?kK ?kd ?ku ?_; (case k1 => k_asm); (case k2 => k_asm); (case k3 => k_asm); (case k4 => k_asm); (case k5 => k_asm); (case kK => first | exact rfl | assumption); (case kd => ktr_room); (case ku => ktr_units)); intro h' tk' F' N'; (try dsimp only); (try k_sweep)))
local macro_rules | `(tactic| walk_at "call ref") => `(tactic| (k_here; (with_reducible show wpAny _ _ (call (Value.ref 188) [Value.ref 160, _] _) _ _ _); k_dflt (refine' ConSN (con_ref_lenE _ _ _ _ (by with_reducible rfl) (by k_extra "size")) ?k1 ?k2 ?k3 ?k4 ?k5 ?kK ?kd ?ku ?_; (case k1 => k_asm); (case k2 => k_asm); (case k3 => k_asm); (case k4 => k_asm); (case k5 => k_asm); (case kK => first | exact rfl | assumption); (case kd => ktr_room); (case ku => ktr_units)); intro h' tk' F' N'; (try dsimp only); (try k_sweep)))
set_option maxRecDepth 100000 in
set_option maxHeartbeats 8000000 in
theorem holds : PySem.Challenge.rw_fe0233_01.Holds := Mine.hd (by
  k_go0
  k_with "idx" => first | decide | omega
  k_steps
  unfold Stop
  have go9 : GoOn := trivial
  (with_reducible rename IntsAre _ (List.map _ _) => hI8)
  (with_reducible rename Fr _ _ _ _ => F9)
  (with_reducible rename List.length _ = List.length (List.map _ _) => hL8)
  obtain ⟨many, hm, hm2⟩ := fmod_many (List.getD (List.map (fun k' : Int => if k' < 0 then -k' else k') _) (Int.toNat 0) 0)
  rw [hm] at F9
  (with_reducible rename PyData.layable0 (PyData.list (List.map PyData.int _)) = true => hLay)
  have hw9 := len_ints_list hLay
  have hI9 := ints_cases hLay hI8
  (with_reducible rename News _ _ _ _ => N9)
  dsimp only at F9 N9 ⊢
  (with_reducible rename Below _ _ _ _ => B9)
  (with_reducible rename Frag.In _ _ => X9)
  (with_reducible rename Top _ _ _ _ _ _ => T9)
  clear hm hI8 hL8
  refine absQF F9 (by passes_own) ?_ ?_
  · intro h9 tk9 m9 FF9
    dsimp only
    first | (k_end; wrow_close)
  · intro Q9 E9 hret hE9
    rename_i w10 s₀ s₁ mg mb G Y fa o pm doc kV ho hg X V GL B TE TW w9 w8 M w7 w6 hcd w5 hs hlay0 hr hl2 w4 w3 w2 w1 w hL' ra w1' r0 hI hr' hcond1 hcond2 hD h1 l' h3 l1 D1 ws h2 hI' l1' hkl hkl' g D2 h'1 tk' o1' t h'
    clear G Y hD hcd M ho ra w1' r0 hr' X V GL B TE TW hs hlay0 hLay hr hl2 hcond1 hcond2 hg
    replace N9 := cb_drop (news := [(D2, LCg.lst ys)]) N9 (by kcj_all)
    clear o1' hI' l1' hkl hkl' hL' hI l1
    have hLm : (lenB many).length ≤ 4 := lenB_len (by omega)
    k_with "rl" => rfl
    k_with "eqi" => first | with_reducible rfl | (simp only [Int.toNat_natCast]; done)
    k_with "ri" => with_reducible rfl
    k_with "r5" => (simp only [List.size_toArray, List.length_cons, sizeLine_eq]; omega)
    k_with "eqb" => first | with_reducible rfl | (simp only [Int.toNat_natCast]; done)
    k_with "bits" => with_reducible assumption
    k_with "size" => first | omega | with_reducible assumption | (simp only [toB, List.length_map, List.length_append, List.length_cons, List.length_nil]; omega)
    refine stageV "length" (fun v => ∃ t, v = .bytes (lenB many).toArray t) F9 N9 ?_ ?_
    · k_steps
      all_goals first | ((with_reducible rename Fr _ _ _ _ => F7); (with_reducible rename News _ _ _ _ => N7); refine' endV F7 N7 ?zS ?zR; (case zS => kcj_all); (case zR => exact ⟨_, rfl⟩))
    clear F9 N9
    rintro _ h1 tk1 ⟨q1, rfl⟩ F1 N1
    dsimp only
    refine stageV "rest" (fun v => ∃ (l : List UInt8) (t : Tok), 3 ≤ l.length ∧ l.length ≤ 5 ∧ v = .bytes l.toArray t) F1 N1 ?_ ?_
    · rcases hI9 with ⟨a, b, c, t0, t1, t2, ba, bb, bc, rfl⟩ | ⟨a, b, c, d, t0, t1, t2, t3, ba, bb, bc, bd, rfl⟩ | ⟨a, b, c, d, e, t0, t1, t2, t3, t4, r, ba, bb, bc, bd, be, hr5, rfl⟩
      all_goals k_steps
      all_goals first | ((with_reducible rename Fr _ _ _ _ => F7); (with_reducible rename News _ _ _ _ => N7); refine' endV F7 N7 ?zS ?zR; (case zS => kcj_all); (case zR => refine ⟨_, _, ?_, ?_, rfl⟩ <;> exact Nat.le_of_ble_eq_true rfl))
    clear F1 N1
    rintro _ h2 tk2 ⟨rb, q2, hrb1, hrb2, rfl⟩ F2 N2
    dsimp only
    refine stageN F2 N2 ?_ ?_
    · k_steps
      all_goals first | ((with_reducible rename Fr _ _ _ _ => F7); (with_reducible rename News _ _ _ _ => N7); refine' endN F7 N7 ?zS; (case zS => kcj_all))
    clear F2 N2
    intro h3 tk3 F3 N3
    dsimp only
    refine stageT "values" (fun o => ∃ (vs : List Nat) (xs : List Value), o = LCg.lst xs ∧ IntsAre xs (vs.map fun n : Nat => (n : Int)) ∧ 3 ≤ vs.length ∧ vs.length ≤ 5 ∧ ∀ v ∈ vs, v < 10 ^ 60) F3 N3 ?_ ?_
    · rcases hI9 with ⟨a, b, c, t0, t1, t2, ba, bb, bc, rfl⟩ | ⟨a, b, c, d, t0, t1, t2, t3, ba, bb, bc, bd, rfl⟩ | ⟨a, b, c, d, e, t0, t1, t2, t3, t4, r, ba, bb, bc, bd, be, hr5, rfl⟩
      all_goals k_steps
      all_goals ((with_reducible rename Fr _ _ _ _ => F7); (with_reducible rename News _ _ _ _ => N7); refine' endT2 F7 N7 ?zS ?zl ?zR; (case zS => kcj_all); (case zl => repeat (first | exact List.forall_mem_nil _ | refine List.forall_mem_cons.mpr ⟨by k_ne, ?_⟩)); (case zR => first
        | exact vals3 (by assumption) (by assumption) (by assumption)
        | exact vals4 (by assumption) (by assumption) (by assumption) (by assumption)
        | exact vals5 (by assumption) (by assumption) (by assumption) (by assumption) (by assumption)))
    clear F3 N3
    rintro D4 _ h4 tk4 ⟨vs, xs, rfl, hxs, hv3, hv5, hvb⟩ F4 N4 l4
    dsimp only
    refine stageT "pieces" (fun o => ∃ (ys : List Value), o = LCg.lst ys ∧ BytesAre ys (vs.map intB)) F4 N4 ?_ ?_
    · rcases vcases hxs hv3 hv5 hvb with ⟨v0, v1, v2, u0, u1, u2, b0, b1, b2, rfl, rfl⟩ | ⟨v0, v1, v2, v3, u0, u1, u2, u3, b0, b1, b2, b3, rfl, rfl⟩ | ⟨v0, v1, v2, v3, v4, u0, u1, u2, u3, u4, b0, b1, b2, b3, b4, rfl, rfl⟩
      all_goals k_steps
      all_goals ((with_reducible rename Fr _ _ _ _ => F7); (with_reducible rename News _ _ _ _ => N7); refine' endT2 F7 N7 ?zS ?zl ?zR; (case zS => kcj_all); (case zl => repeat (first | exact List.forall_mem_nil _ | refine List.forall_mem_cons.mpr ⟨by k_ne, ?_⟩)); (case zR => first
        | exact ⟨_, rfl, .cons (.cons (.cons .nil))⟩
        | exact ⟨_, rfl, .cons (.cons (.cons (.cons .nil)))⟩
        | exact ⟨_, rfl, .cons (.cons (.cons (.cons (.cons .nil))))⟩))
    clear F4 N4
    rintro D5 _ h5 tk5 ⟨ys5, rfl, hys5⟩ F5 N5 l5
    dsimp only
    refine stageN F5 N5 ?_ ?_
    · rcases vcases hxs hv3 hv5 hvb with ⟨v0, v1, v2, u0, u1, u2, b0, b1, b2, rfl, rfl⟩ | ⟨v0, v1, v2, v3, u0, u1, u2, u3, b0, b1, b2, b3, rfl, rfl⟩ | ⟨v0, v1, v2, v3, v4, u0, u1, u2, u3, u4, b0, b1, b2, b3, b4, rfl, rfl⟩
      · obtain ⟨s0, s1, s2, rfl⟩ := bytes3 hys5
        k_steps
        (with_reducible rename Fr _ _ _ _ => F7); (with_reducible rename News _ _ _ _ => N7); refine' endN F7 N7 ?zS; (case zS => kcj_all)
      · obtain ⟨s0, s1, s2, s3, rfl⟩ := bytes4 hys5
        k_steps
        (with_reducible rename Fr _ _ _ _ => F7); (with_reducible rename News _ _ _ _ => N7); refine' endN F7 N7 ?zS; (case zS => kcj_all)
      · obtain ⟨s0, s1, s2, s3, s4, rfl⟩ := bytes5 hys5
        k_steps
        (with_reducible rename Fr _ _ _ _ => F7); (with_reducible rename News _ _ _ _ => N7); refine' endN F7 N7 ?zS; (case zS => kcj_all)
    clear F5 N5
    intro h6 tk6 F6 N6
    dsimp only
    refine stageV "value" (fun _ => True) F6 N6 ?_ ?_
    · rcases vcases hxs hv3 hv5 hvb with ⟨v0, v1, v2, u0, u1, u2, b0, b1, b2, rfl, rfl⟩ | ⟨v0, v1, v2, v3, u0, u1, u2, u3, b0, b1, b2, b3, rfl, rfl⟩ | ⟨v0, v1, v2, v3, v4, u0, u1, u2, u3, u4, b0, b1, b2, b3, b4, rfl, rfl⟩
      · have L0 : (intB ((v0 : Nat) : Int).toNat).length ≤ 28 := intB_len b0
        have L1 : (intB ((v1 : Nat) : Int).toNat).length ≤ 28 := intB_len b1
        have L2 : (intB ((v2 : Nat) : Int).toNat).length ≤ 28 := intB_len b2
        clear hxs hvb hI9 hys5
        k_steps
        (with_reducible rename Fr _ _ _ _ => F7); (with_reducible rename News _ _ _ _ => N7); refine' endV3 F7 N7 ?zS; (case zS => kcj_all)
      · have L0 : (intB ((v0 : Nat) : Int).toNat).length ≤ 28 := intB_len b0
        have L1 : (intB ((v1 : Nat) : Int).toNat).length ≤ 28 := intB_len b1
        have L2 : (intB ((v2 : Nat) : Int).toNat).length ≤ 28 := intB_len b2
        have L3 : (intB ((v3 : Nat) : Int).toNat).length ≤ 28 := intB_len b3
        clear hxs hvb hI9 hys5
        k_steps
        (with_reducible rename Fr _ _ _ _ => F7); (with_reducible rename News _ _ _ _ => N7); refine' endV4 F7 N7 ?zS; (case zS => kcj_all)
      · have L0 : (intB ((v0 : Nat) : Int).toNat).length ≤ 28 := intB_len b0
        have L1 : (intB ((v1 : Nat) : Int).toNat).length ≤ 28 := intB_len b1
        have L2 : (intB ((v2 : Nat) : Int).toNat).length ≤ 28 := intB_len b2
        have L3 : (intB ((v3 : Nat) : Int).toNat).length ≤ 28 := intB_len b3
        have L4 : (intB ((v4 : Nat) : Int).toNat).length ≤ 28 := intB_len b4
        clear hxs hvb hI9 hys5
        k_steps
        (with_reducible rename Fr _ _ _ _ => F7); (with_reducible rename News _ _ _ _ => N7); refine' endV5 F7 N7 ?zS; (case zS => kcj_all)
    clear F6 N6
    rintro v7 h7 tk7 _ F7 N7
    dsimp only
    refine stageV "whole" (fun v => ∃ t, v = .bytes (seqB (vs.map intB).flatten).toArray t) F7 N7 ?_ ?_
    · rcases vcases hxs hv3 hv5 hvb with ⟨v0, v1, v2, u0, u1, u2, b0, b1, b2, rfl, rfl⟩ | ⟨v0, v1, v2, v3, u0, u1, u2, u3, b0, b1, b2, b3, rfl, rfl⟩ | ⟨v0, v1, v2, v3, v4, u0, u1, u2, u3, u4, b0, b1, b2, b3, b4, rfl, rfl⟩
      · have L0 := intB_len b0
        have L1 := intB_len b1
        have L2 := intB_len b2
        obtain ⟨s0, s1, s2, rfl⟩ := bytes3 hys5
        clear hxs hvb hI9 hys5
        k_steps
        (with_reducible rename Fr _ _ _ _ => F7); (with_reducible rename News _ _ _ _ => N7); refine' endV F7 N7 ?zS ?zR; (case zS => kcj_all); (case zR => exact ⟨_, congrArg (fun l => Value.bytes (seqB l).toArray _) (by simp)⟩)
      · have L0 := intB_len b0
        have L1 := intB_len b1
        have L2 := intB_len b2
        have L3 := intB_len b3
        obtain ⟨s0, s1, s2, s3, rfl⟩ := bytes4 hys5
        clear hxs hvb hI9 hys5
        k_steps
        (with_reducible rename Fr _ _ _ _ => F7); (with_reducible rename News _ _ _ _ => N7); refine' endV F7 N7 ?zS ?zR; (case zS => kcj_all); (case zR => exact ⟨_, congrArg (fun l => Value.bytes (seqB l).toArray _) (by simp)⟩)
      · have L0 := intB_len b0
        have L1 := intB_len b1
        have L2 := intB_len b2
        have L3 := intB_len b3
        have L4 := intB_len b4
        obtain ⟨s0, s1, s2, s3, s4, rfl⟩ := bytes5 hys5
        clear hxs hvb hI9 hys5
        k_steps
        (with_reducible rename Fr _ _ _ _ => F7); (with_reducible rename News _ _ _ _ => N7); refine' endV F7 N7 ?zS ?zR; (case zS => kcj_all); (case zR => exact ⟨_, congrArg (fun l => Value.bytes (seqB l).toArray _) (by simp)⟩)
    clear F7 N7
    rintro _ h8 tk8 ⟨q8, rfl⟩ F8 N8
    dsimp only
    refine stageV "body" (fun v => ∃ t, v = .bytes (vs.map intB).flatten.toArray t) F8 N8 ?_ ?_
    · have hfl := flat_len hvb
      have hfl2 : (vs.map intB).flatten.length ≤ 140 := by omega
      k_with "pieces" => exact hys5
      k_with "size" => first | omega | with_reducible assumption | (simp only [toB, List.length_map, List.length_append, List.length_cons, List.length_nil]; omega)
      clear hxs hvb hI9
      k_steps
      (with_reducible rename Fr _ _ _ _ => F7); (with_reducible rename News _ _ _ _ => N7); refine' endV F7 N7 ?zS ?zR; (case zS => kcj_all); (case zR => exact ⟨_, rfl⟩)
    clear F8 N8
    rintro _ h9 tk9 ⟨q9, rfl⟩ F9 N9
    dsimp only
    have hbd : (vs.map intB).flatten.length ≤ 140 := by have := flat_len hvb; omega
    generalize (vs.map intB).flatten = bd at hbd F9
    replace N9 := cb_drop (news := [(D2, LCg.lst ys)]) N9 (by kcj_all)
    clear hxs hvb hys5 hv3 hv5
    have hwl : (seqB bd).length ≤ bd.length + 5 := seqB_len (by omega)
    refine stageN F9 N9 ?_ ?_
    · have hlb : (lenB ((bd.length : Nat) : Int).toNat).length ≤ 4 := lenB_len (by omega)
      k_with "eqb" => first | with_reducible rfl | (simp only [Int.toNat_natCast]; done) | exact seq_eq _ | exact (seq_eq _).symm
      k_with "ri" => with_reducible rfl
      k_with "size" => first | omega | with_reducible assumption | (simp only [toB, List.length_map, List.length_append, List.length_cons, List.length_nil]; omega)
      clear hI9
      k_steps
      all_goals first | ((with_reducible rename Fr _ _ _ _ => F7); (with_reducible rename News _ _ _ _ => N7); refine' endN F7 N7 ?zS; (case zS => kcj_all))
    clear F9 N9
    intro h10 tk10 F10 N10
    dsimp only
    refine stageV "nested" (fun v => ∃ t, v = .bytes (seqB (seqB bd ++ seqB [])).toArray t) F10 N10 ?_ ?_
    · k_with "size" => first | omega | with_reducible assumption | exact Nat.le_of_ble_eq_true rfl
      clear hI9
      k_steps
      (with_reducible rename Fr _ _ _ _ => F7); (with_reducible rename News _ _ _ _ => N7); refine' endV F7 N7 ?zS ?zR; (case zS => kcj_all); (case zR => exact ⟨_, rfl⟩)
    clear F10 N10
    rintro _ h11 tk11 ⟨q11, rfl⟩ F11 N11
    dsimp only
    refine stageN F11 N11 ?_ ?_
    · have hn0 : (seqB []).length = 2 := rfl
      have hn1 : (seqB bd ++ seqB []).length = (seqB bd).length + 2 := by rw [List.length_append, hn0]
      have hn2 : (seqB (seqB bd ++ seqB [])).length ≤ (seqB bd ++ seqB []).length + 5 := seqB_len (by omega)
      k_with "eqb" => exact seq_nil _
      k_with "ri" => with_reducible rfl
      k_with "size" => first | omega | with_reducible assumption | (simp only [toB, List.length_map, List.length_append, List.length_cons, List.length_nil]; omega)
      clear hI9
      k_steps
      all_goals first | ((with_reducible rename Fr _ _ _ _ => F7); (with_reducible rename News _ _ _ _ => N7); refine' endN F7 N7 ?zS; (case zS => kcj_all))
    clear F11 N11
    intro h12 tk12 F12 N12
    dsimp only
    obtain ⟨a, b, c, u0, u1, u2, yr, rfl⟩ := three hI9
    clear hI9 hw9
    refine stageV "octets" (fun v => ∃ (k : UInt8) (t : Tok), 128 ≤ k.toNat ∧ v = .bytes (k :: rb).toArray t) F12 N12 ?_ ?_
    · k_with "in" => exact oct_in _
      k_steps
      (with_reducible rename Fr _ _ _ _ => F7); (with_reducible rename News _ _ _ _ => N7); refine' endV F7 N7 ?zS ?zR; (case zS => kcj_all); (case zR => exact ⟨_, _, oct128 _, rfl⟩)
    clear F12 N12
    rintro _ h13 tk13 ⟨k13, q13, hk13, rfl⟩ F13 N13
    dsimp only
    obtain ⟨oc, hoc, hol, hoh⟩ : ∃ oc : List UInt8, oc = k13 :: rb ∧ oc.length = rb.length + 1 ∧ 128 ≤ (oc.headD 0).toNat := ⟨_, rfl, rfl, hk13⟩
    rw [← hoc] at F13
    clear hoc hk13
    refine stageV "negative" (fun v => ∃ t, v = .bytes (2 :: oc.length.toUInt8 :: oc).toArray t) F13 N13 ?_ ?_
    · k_with "in" => exact neg_in _ (by omega)
      k_steps
      (with_reducible rename Fr _ _ _ _ => F7); (with_reducible rename News _ _ _ _ => N7); refine' endV F7 N7 ?zS ?zR; (case zS => kcj_all); (case zR => exact ⟨_, rfl⟩)
    clear F13 N13
    rintro _ h14 tk14 ⟨q14, rfl⟩ F14 N14
    dsimp only
    refine stageV "number" (fun v => ∃ t, v = .int ((valB oc : Nat) : Int) t) F14 N14 ?_ ?_
    · k_with "plen" => exact powL_len _
      k_with "pbits" => exact pow_bits (by omega)
      k_with "ri" => with_reducible rfl
      k_steps
      (with_reducible rename Fr _ _ _ _ => F7); (with_reducible rename News _ _ _ _ => N7); refine' endV F7 N7 ?zS ?zR; (case zS => kcj_all); (case zR => exact ⟨_, by rw [prodZ_sum]⟩)
    clear F14 N14
    rintro _ h15 tk15 ⟨q15, rfl⟩ F15 N15
    dsimp only
    refine stageN F15 N15 ?_ ?_
    · k_with "ri" => with_reducible rfl
      k_with "tn" => exact toNat_of (by omega)
      k_with "eqi" => first | with_reducible rfl | exact neg_eq _
      k_steps
      all_goals first | ((with_reducible rename Fr _ _ _ _ => F7); (with_reducible rename News _ _ _ _ => N7); refine' endN F7 N7 ?zS; (case zS => kcj_all))
    clear F15 N15
    intro h16 tk16 F16 N16
    dsimp only
    refine stageN F16 N16 ?_ ?_
    · k_with "ri" => with_reducible rfl
      k_with "tn" => exact toNat_of (by omega)
      k_steps
      all_goals first | ((with_reducible rename Fr _ _ _ _ => F7); (with_reducible rename News _ _ _ _ => N7); refine' endN F7 N7 ?zS; (case zS => kcj_all))
    clear F16 N16
    intro h17 tk17 F17 N17
    dsimp only
    refine stageV "first" (fun v => ∃ (f : Nat) (t : Tok), f < 256 ∧ v = .int ((f : Nat) : Int) t) F17 N17 ?_ ?_
    · k_steps
      (with_reducible rename Fr _ _ _ _ => F7); (with_reducible rename News _ _ _ _ => N7); refine' endV F7 N7 ?zS ?zR; (case zS => kcj_all); (case zR => exact fmod256 _ _)
    clear F17 N17
    rintro _ h18 tk18 ⟨f18, q18, hf18, rfl⟩ F18 N18
    dsimp only
    k_with "size" => first | omega | with_reducible assumption | (simp only [toB, List.length_map, List.length_append, List.length_drop, List.length_take, List.length_cons, List.length_nil]; omega)
    refine stageN F18 N18 ?_ ?_
    · skip
      k_steps
      all_goals first | ((with_reducible rename Fr _ _ _ _ => F7); (with_reducible rename News _ _ _ _ => N7); refine' endN F7 N7 ?zS; (case zS => kcj_all))
    clear F18 N18
    intro h19 tk19 F19 N19
    dsimp only
    refine stageN F19 N19 ?_ ?_
    · skip
      k_steps
      all_goals first | ((with_reducible rename Fr _ _ _ _ => F7); (with_reducible rename News _ _ _ _ => N7); refine' endN F7 N7 ?zS; (case zS => kcj_all))
    clear F19 N19
    intro h20 tk20 F20 N20
    dsimp only
    refine stageV "cut" (fun v => ∃ (j : Nat) (t : Tok), j < oc.length ∧ v = .int ((2 + j : Nat) : Int) t) F20 N20 ?_ ?_
    · skip
      k_steps
      (with_reducible rename Fr _ _ _ _ => F7); (with_reducible rename News _ _ _ _ => N7); refine' endV F7 N7 ?zS ?zR; (case zS => kcj_all); (case zR => exact cut_ok _ _ (by omega))
    clear F20 N20
    rintro _ h21 tk21 ⟨j21, q21, hj21, rfl⟩ F21 N21
    dsimp only
    · k_with "in" => exact in130 _
      k_steps
      all_goals first | exact hret _ _ _ (by k_asm)
    )
end Mine
end

open PySem PySem.W PyProof.Rows
theorem PySem.Challenge.cw_fe0233_01_holds : PySem.Challenge.rw_fe0233_01.Holds := by
  exact Mine.holds
