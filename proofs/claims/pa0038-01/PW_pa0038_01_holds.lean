import PyProof.Rows.All
import Wide.All
import OpenK.AllK
import Wide.FinOn
import Lean
import PySem.Challenge.RW_pa0038_01
open PySem PySem.W PyProof.Rows PySem.Calls
set_option Elab.async false
set_option maxRecDepth 100000
set_option maxHeartbeats 8000000
set_option linter.all false
namespace Mine
noncomputable abbrev myr : RowW := OpenRow.toRowW (OpenLaw.row PySem.Challenge.rw_pa0038_01)
noncomputable abbrev loose : List PySem.Str := [Str.ofString "_twin_re_7", Str.ofString "HEADER_TOKEN_RE", Str.ofString "HEADER_QUOTED_VALUE_RE", Str.ofString "HEADER_VALUE_RE", Str.ofString "HEADER_ESCAPE_RE", Str.ofString "HEADER_JOIN_TOKEN_RE", Str.ofString "HEADER_JOIN_ESCAPE_RE", Str.ofString "_twin_re_1", Str.ofString "bytes_types", Str.ofString "a2b_base64", Str.ofString "b2a_base64", Str.ofString "_NO_SEP", Str.ofString "b2a_hex", Str.ofString "hexlify", Str.ofString "unhexlify", Str.ofString "b64encode", Str.ofString "b64decode", Str.ofString "_urlsafe_encode_translation", Str.ofString "_urlsafe_decode_translation", Str.ofString "b16decode"]
noncomputable abbrev lv : List (PySem.Str × WData) := [(Str.ofString "_urlsafe_encode_translation", WData.bytes [0, 1, 2, 3, 4, 5, 6, 7, 8, 9, 10, 11, 12, 13, 14, 15, 16, 17, 18, 19, 20, 21, 22, 23, 24, 25, 26, 27, 28, 29, 30, 31, 32, 33, 34, 35, 36, 37, 38, 39, 40, 41, 42, 45, 44, 45, 46, 95, 48, 49, 50, 51, 52, 53, 54, 55, 56, 57, 58, 59, 60, 61, 62, 63, 64, 65, 66, 67, 68, 69, 70, 71, 72, 73, 74, 75, 76, 77, 78, 79, 80, 81, 82, 83, 84, 85, 86, 87, 88, 89, 90, 91, 92, 93, 94, 95, 96, 97, 98, 99, 100, 101, 102, 103, 104, 105, 106, 107, 108, 109, 110, 111, 112, 113, 114, 115, 116, 117, 118, 119, 120, 121, 122, 123, 124, 125, 126, 127, 128, 129, 130, 131, 132, 133, 134, 135, 136, 137, 138, 139, 140, 141, 142, 143, 144, 145, 146, 147, 148, 149, 150, 151, 152, 153, 154, 155, 156, 157, 158, 159, 160, 161, 162, 163, 164, 165, 166, 167, 168, 169, 170, 171, 172, 173, 174, 175, 176, 177, 178, 179, 180, 181, 182, 183, 184, 185, 186, 187, 188, 189, 190, 191, 192, 193, 194, 195, 196, 197, 198, 199, 200, 201, 202, 203, 204, 205, 206, 207, 208, 209, 210, 211, 212, 213, 214, 215, 216, 217, 218, 219, 220, 221, 222, 223, 224, 225, 226, 227, 228, 229, 230, 231, 232, 233, 234, 235, 236, 237, 238, 239, 240, 241, 242, 243, 244, 245, 246, 247, 248, 249, 250, 251, 252, 253, 254, 255]), (Str.ofString "_urlsafe_decode_translation", WData.bytes [0, 1, 2, 3, 4, 5, 6, 7, 8, 9, 10, 11, 12, 13, 14, 15, 16, 17, 18, 19, 20, 21, 22, 23, 24, 25, 26, 27, 28, 29, 30, 31, 32, 33, 34, 35, 36, 37, 38, 39, 40, 41, 42, 43, 44, 43, 46, 47, 48, 49, 50, 51, 52, 53, 54, 55, 56, 57, 58, 59, 60, 61, 62, 63, 64, 65, 66, 67, 68, 69, 70, 71, 72, 73, 74, 75, 76, 77, 78, 79, 80, 81, 82, 83, 84, 85, 86, 87, 88, 89, 90, 91, 92, 93, 94, 47, 96, 97, 98, 99, 100, 101, 102, 103, 104, 105, 106, 107, 108, 109, 110, 111, 112, 113, 114, 115, 116, 117, 118, 119, 120, 121, 122, 123, 124, 125, 126, 127, 128, 129, 130, 131, 132, 133, 134, 135, 136, 137, 138, 139, 140, 141, 142, 143, 144, 145, 146, 147, 148, 149, 150, 151, 152, 153, 154, 155, 156, 157, 158, 159, 160, 161, 162, 163, 164, 165, 166, 167, 168, 169, 170, 171, 172, 173, 174, 175, 176, 177, 178, 179, 180, 181, 182, 183, 184, 185, 186, 187, 188, 189, 190, 191, 192, 193, 194, 195, 196, 197, 198, 199, 200, 201, 202, 203, 204, 205, 206, 207, 208, 209, 210, 211, 212, 213, 214, 215, 216, 217, 218, 219, 220, 221, 222, 223, 224, 225, 226, 227, 228, 229, 230, 231, 232, 233, 234, 235, 236, 237, 238, 239, 240, 241, 242, 243, 244, 245, 246, 247, 248, 249, 250, 251, 252, 253, 254, 255])]
noncomputable abbrev myq : Program := view PySem.Challenge.pw_pa0038_01 [0, 1, 3, 4, 5, 6, 7, 8, 9, 10, 11, 12, 14, 15, 16, 18, 19, 20, 21, 22, 23, 26, 28, 29, 30, 31, 35, 36, 37, 38, 39, 42, 43, 44, 45, 46]
theorem my_open {d : DefRec} {kwd : List (Str × Expr)} (H : Hook) (said : (OpenLaw.row PySem.Challenge.rw_pa0038_01).wellSaid = true) (left : LeftO (OpenLaw.row PySem.Challenge.rw_pa0038_01).prog myq loose (fun s => xlAt myq lv s && recOk (RowW.records myr) s) (Hook.obs H) (Hook.val H) 3744)
    (hdef : defOf myq (OpenLaw.row PySem.Challenge.rw_pa0038_01).name = some (d, kwd)) (hp : (OpenLaw.row PySem.Challenge.rw_pa0038_01).prog.theDef (OpenLaw.row PySem.Challenge.rw_pa0038_01).name = some (d.params, d.body, d.scope)) (hk : kwWritten? d.params.kwonlyargs d.params.kw_defaults = some kwd) (hw : (OpenLaw.row PySem.Challenge.rw_pa0038_01).toRowW.promised)
    (call : WalkO myq loose (XL myq lv) (Hook.says H) (OpenLaw.row PySem.Challenge.rw_pa0038_01).toRowW d kwd fun f vs => PySem.call f vs) : (OpenLaw.row PySem.Challenge.rw_pa0038_01).Holds :=
  holds_open (q := myq) (loose := loose) (Xt := fun s => xlAt myq lv s && recOk (RowW.records myr) s) (XP := XL myq lv) (Yf := Hook.obs H) (Ya := Hook.val H) (YP := Hook.says H) (N := 3744) left (Hook.of H) (Hook.keeps H) (fun s e => xl_of s (Bool.and_eq_true_iff.mp e).1) XL.keeps hdef hp hk
    (fun s e => recFacts_of (Bool.and_eq_true_iff.mp e).2) (by rfl) said (by decide +kernel) ⟨rfl, rfl, rfl, rfl, rfl, by decide +kernel⟩ hw call
theorem words_hd : True := by
  k_with "hd_left" => (intro w; unfold openEnds fencedOpening topFrom; rw [PySem.W.Fast.te10274390034422433532, PySem.W.Fast.te14289696077712309145, PySem.W.Fast.te1435165496053646825, PySem.W.Fast.te14082659384304107361, PySem.W.Fast.te4187177175401517315, PySem.W.Fast.te5923862056798008813, PySem.W.Fast.te8920871248978507458, PySem.W.Fast.te14364793385576792824]; kernel_rfl)
  trivial
local macro_rules | `(tactic| o_head $H:term) => `(tactic| (refine my_open $H (by assumption) ?$(Lean.mkIdent `hl) (by rfl) (by rfl) (by rfl) ?$(Lean.mkIdent `hw) ?$(Lean.mkIdent `hc); focus k_extra "hd_left"))
theorem law_said : OpenLaw.wellSaid PySem.Challenge.rw_pa0038_01 = true := by
  rw [PySem.W.Fast.te9446332074065402090]
  kernel_rfl
local macro_rules | `(tactic| o_law) => `(tactic| refine holds_law law_said fun said => ?_)
open_top hd for PySem.Challenge.rw_pa0038_01
theorem fill_all : ∀ (w : World) (h : Heap), (hd.heap_1 w.params).In h → PySem.Challenge.rw_pa0038_01 = PySem.Challenge.rw_pa0038_01 := by k_fill; intros; rfl
local macro_rules | `(tactic| walk_at $s:str) => `(tactic| k_extra $s)

section
open PySem.W in
theorem bitOr_sum (x y : Int) : Builtin.bitOr x y = x + y - Builtin.bitAnd x y := by
  have h := bitXor_and x y
  unfold Builtin.bitXor at h
  omega
theorem and_hi (a b k : Nat) (hb : b < 2 ^ k) : (a * 2 ^ k) &&& b = 0 := by
  apply Nat.eq_of_testBit_eq
  intro i
  rw [Nat.testBit_and, ← Nat.shiftLeft_eq, Nat.testBit_shiftLeft, Nat.zero_testBit]
  by_cases h : k ≤ i
  · rw [Nat.testBit_lt_two_pow (Nat.lt_of_lt_of_le hb (Nat.pow_le_pow_right (by decide) h))]; simp
  · simp [h]
theorem bitAnd_hi (a b : Int) (k : Nat) (ha : 0 ≤ a) (hb : 0 ≤ b) (hk : b < 2 ^ k) : Builtin.bitAnd (a * 2 ^ k) b = 0 := by
  obtain ⟨n, rfl⟩ := Int.eq_ofNat_of_zero_le ha
  obtain ⟨m, rfl⟩ := Int.eq_ofNat_of_zero_le hb
  have e : (n : Int) * 2 ^ k = ((n * 2 ^ k : Nat) : Int) := by push_cast; rfl
  rw [e]
  have hm : m < 2 ^ k := by
    have : ((m : Nat) : Int) < ((2 ^ k : Nat) : Int) := by push_cast; exact hk
    exact_mod_cast this
  unfold Builtin.bitAnd
  simp only [Int.natCast_nonneg, decide_true, Int.toNat_natCast]
  rw [and_hi n m k hm]; rfl
theorem bitOr_hi (a b : Int) (k : Nat) (ha : 0 ≤ a) (hb : 0 ≤ b) (hk : b < 2 ^ k) : Builtin.bitOr (a * 2 ^ k) b = a * 2 ^ k + b := by
  rw [bitOr_sum, bitAnd_hi a b k ha hb hk]; omega

theorem lc_next {lc o : Int} (h : 0 ≤ lc) (h0 : 0 ≤ o) (h1 : o < 256) : Builtin.bitAnd (Builtin.bitOr (lc * 2 ^ Int.toNat 8) o) 65535 = (lc * 256 + o) % 65536 := by
  rw [bitAnd_m16, show (Int.toNat 8) = 8 from rfl, bitOr_hi lc o 8 h h0 (by simpa using h1)]; rfl
theorem idx_of (x : Int) (k : Nat) : Builtin.bitAnd (x.fdiv (2 ^ k)) 63 = (x / 2 ^ k) % 64 := by
  rw [bitAnd_m6, Int.fdiv_eq_ediv_of_nonneg]; exact Int.le_of_lt (kbt_pos k)
/-- a bytes of ints -/
noncomputable def bz (ns : List Int) : Array UInt8 := (ns.map fun n => n.toNat.toUInt8).toArray
noncomputable def Oct (ns : List Int) : Prop := ∀ n ∈ ns, 0 ≤ n ∧ n < 256
theorem bInts_bz {ns : List Int} (h : Oct ns) : KBw.bInts (bz ns) = ns := by
  unfold KBw.bInts bz
  simp only [List.map_map]
  conv => rhs; rw [← List.map_id ns]
  apply List.map_congr_left
  intro n hn
  have := h n hn
  simp only [Function.comp, id]
  have e : (UInt8.toNat (n.toNat.toUInt8)) = n.toNat := by
    show (UInt8.ofNat n.toNat).toNat = _
    rw [UInt8.toNat_ofNat']
    omega
  rw [e]; omega
theorem bz_bInts (b : Array UInt8) : bz (KBw.bInts b) = b := by
  unfold KBw.bInts bz
  rw [List.map_map]
  have : ((fun n : Int => n.toNat.toUInt8) ∘ fun c : UInt8 => ((c.toNat : Nat) : Int)) = id := by
    funext c
    simp only [Function.comp, Int.toNat_natCast, id]
    show UInt8.ofNat c.toNat = c
    exact UInt8.ofNat_toNat
  rw [this, List.map_id]
theorem oct_bInts (b : Array UInt8) : Oct (KBw.bInts b) := fun _ hk => KBw.ints_in hk
theorem bInts_inj {a b : Array UInt8} (h : KBw.bInts a = KBw.bInts b) : a = b := by rw [← bz_bInts a, h, bz_bInts]

/-! base 64: the digits, octet by octet -/
noncomputable def step64 (s : List Int × Int × Int) (o : Int) : List Int × Int × Int :=
  if s.2.1 = 0 then (s.1 ++ [o / 4], 1, o % 4)
  else if s.2.1 = 1 then (s.1 ++ [s.2.2 * 16 + o / 16], 2, o % 16)
  else (s.1 ++ [s.2.2 * 4 + o / 64, o % 64], 0, 0)
noncomputable def fold64 (ks : List Int) : List Int × Int × Int := ks.foldl step64 ([], 0, 0)
noncomputable def dig64 (ks : List Int) : List Int :=
  let s := fold64 ks
  if s.2.1 = 0 then s.1 else if s.2.1 = 1 then s.1 ++ [s.2.2 * 16] else s.1 ++ [s.2.2 * 4]
noncomputable def pad64 (ks : List Int) : Nat := if (fold64 ks).2.1 = 0 then 0 else if (fold64 ks).2.1 = 1 then 2 else 1
theorem fold64_snoc (ks : List Int) (o : Int) : fold64 (ks ++ [o]) = step64 (fold64 ks) o := by unfold fold64; rw [List.foldl_append]; rfl
theorem snocInd {α : Type} {P : List α → Prop} (h0 : P []) (h1 : ∀ l a, P l → P (l ++ [a])) (l : List α) : P l := by
  rw [← List.reverse_reverse l]
  induction l.reverse with
  | nil => exact h0
  | cons a r ih => rw [List.reverse_cons]; exact h1 _ _ ih
structure F64 (ks : List Int) : Prop where
  ph : ((fold64 ks).2.1 = 0 ∧ (fold64 ks).2.2 = 0) ∨ ((fold64 ks).2.1 = 1 ∧ 0 ≤ (fold64 ks).2.2 ∧ (fold64 ks).2.2 < 4) ∨ ((fold64 ks).2.1 = 2 ∧ 0 ≤ (fold64 ks).2.2 ∧ (fold64 ks).2.2 < 16)
  dg : ∀ d ∈ (fold64 ks).1, 0 ≤ d ∧ d < 64
  ln : (fold64 ks).1.length * 3 + (fold64 ks).2.1 = ks.length * 4
theorem f64 (ks : List Int) (h : Oct ks) : F64 ks := by
  revert h
  refine snocInd (P := fun ks => Oct ks → F64 ks) ?_ ?_ ks
  · intro _; exact ⟨.inl ⟨rfl, rfl⟩, (fun _ h => nomatch h), rfl⟩
  · intro ks o ih h
    have ho := h o (by simp)
    obtain ⟨ph, dg, ln⟩ := ih fun k hk => h k (by simp [hk])
    revert ph dg ln
    rcases e : fold64 ks with ⟨D, p, hl⟩
    intro ph dg ln
    have e2 := fold64_snoc ks o
    rw [e] at e2
    unfold step64 at e2
    dsimp only at *
    rcases ph with ⟨rfl, rfl⟩ | ⟨rfl, h1, h2⟩ | ⟨rfl, h1, h2⟩
    · simp only [if_true] at e2
      refine ⟨?_, ?_, ?_⟩ <;> rw [e2] <;> dsimp only
      · right; left; omega
      · intro d hd; rcases List.mem_append.mp hd with hd | hd
        · exact dg d hd
        · rw [List.mem_singleton.mp hd]; omega
      · simp only [List.length_append, List.length_cons, List.length_nil]; omega
    · simp only [show ¬ (1 : Int) = 0 by decide, if_false, if_true] at e2
      refine ⟨?_, ?_, ?_⟩ <;> rw [e2] <;> dsimp only
      · right; right; omega
      · intro d hd; rcases List.mem_append.mp hd with hd | hd
        · exact dg d hd
        · rw [List.mem_singleton.mp hd]; omega
      · simp only [List.length_append, List.length_cons, List.length_nil]; omega
    · simp only [show ¬ (2 : Int) = 0 by decide, show ¬ (2 : Int) = 1 by decide, if_false] at e2
      refine ⟨?_, ?_, ?_⟩ <;> rw [e2] <;> dsimp only
      · left; exact ⟨rfl, rfl⟩
      · intro d hd; rcases List.mem_append.mp hd with hd | hd
        · exact dg d hd
        · simp only [List.mem_cons, List.not_mem_nil, or_false] at hd; rcases hd with rfl | rfl <;> omega
      · simp only [List.length_append, List.length_cons, List.length_nil]; omega
noncomputable def B64L : List Int := [65, 66, 67, 68, 69, 70, 71, 72, 73, 74, 75, 76, 77, 78, 79, 80, 81, 82, 83, 84, 85, 86, 87, 88, 89, 90, 97, 98, 99, 100, 101, 102, 103, 104, 105, 106, 107, 108, 109, 110, 111, 112, 113, 114, 115, 116, 117, 118, 119, 120, 121, 122, 48, 49, 50, 51, 52, 53, 54, 55, 56, 57, 43, 47]
noncomputable def b64c (d : Int) : Int := B64L.getD d.toNat 0
noncomputable def enc64 (ks : List Int) : List Int := (dig64 ks).map b64c ++ List.replicate (pad64 ks) 61

theorem step_0 {ks : List Int} {o : Int} (h : (fold64 ks).2.1 = 0) : fold64 (ks ++ [o]) = ((fold64 ks).1 ++ [o / 4], 1, o % 4) := by
  rw [fold64_snoc]; unfold step64; rw [if_pos h]
theorem step_1 {ks : List Int} {o : Int} (h : (fold64 ks).2.1 = 1) : fold64 (ks ++ [o]) = ((fold64 ks).1 ++ [(fold64 ks).2.2 * 16 + o / 16], 2, o % 16) := by
  rw [fold64_snoc]; unfold step64; rw [if_neg (by rw [h]; decide), if_pos h]
theorem step_2 {ks : List Int} {o : Int} (h : (fold64 ks).2.1 = 2) : fold64 (ks ++ [o]) = ((fold64 ks).1 ++ [(fold64 ks).2.2 * 4 + o / 64, o % 64], 0, 0) := by
  rw [fold64_snoc]; unfold step64; rw [if_neg (by rw [h]; decide), if_neg (by rw [h]; decide)]

theorem b64c_in (d : Int) (h0 : 0 ≤ d) (h1 : d < 64) : 0 ≤ b64c d ∧ b64c d < 256 := by
  have : ∀ n : Fin 64, 0 ≤ B64L.getD n.val 0 ∧ B64L.getD n.val 0 < 256 := by decide
  exact this ⟨d.toNat, by omega⟩
theorem enc_oct {ks : List Int} (h : F64 ks) : ∀ n ∈ (fold64 ks).1.map b64c, 0 ≤ n ∧ n < 256 := by
  intro n hn
  obtain ⟨d, hd, rfl⟩ := List.mem_map.mp hn
  exact b64c_in d (h.dg d hd).1 (h.dg d hd).2
theorem fin_0 {ks : List Int} (h : (fold64 ks).2.1 = 0) : bz ((fold64 ks).1.map b64c) = bz (enc64 ks) := by
  unfold enc64 dig64 pad64; simp [h]
theorem fin_1 {ks : List Int} (h : (fold64 ks).2.1 = 1) : bz (((fold64 ks).1.map b64c) ++ [b64c ((fold64 ks).2.2 * 16), 61, 61]) = bz (enc64 ks) := by
  unfold enc64 dig64 pad64; simp [h, List.replicate]
theorem fin_2 {ks : List Int} (h : (fold64 ks).2.1 = 2) : bz (((fold64 ks).1.map b64c) ++ [b64c ((fold64 ks).2.2 * 4), 61]) = bz (enc64 ks) := by
  unfold enc64 dig64 pad64; simp [h, List.replicate]
theorem oct_app {a b : List Int} (ha : Oct a) (hb : Oct b) : Oct (a ++ b) := fun n hn => (List.mem_append.mp hn).elim (ha n) (hb n)
theorem oct_app3 {x : Int} (h : 0 ≤ x ∧ x < 256) : Oct [x, 61, 61] := by intro n hn; simp only [List.mem_cons, List.not_mem_nil, or_false] at hn; rcases hn with rfl | rfl | rfl <;> omega
theorem oct_app2 {x : Int} (h : 0 ≤ x ∧ x < 256) : Oct [x, 61] := by intro n hn; simp only [List.mem_cons, List.not_mem_nil, or_false] at hn; rcases hn with rfl | rfl <;> omega
end

section
/-! facts of built-in methods -/
theorem slot_translate : Slot "bytes" "translate" "bytes.translate" :=
  .of (owner := "bytes") (n := "translate") (by rw [typeLookup_type, builtinLookup_eq_fast]; kernel_rfl) (by decide +kernel) (by decide +kernel) (by decide +kernel)
    (by first | exact .inl (by decide +kernel) | exact .inr (by decide +kernel)) (by rw [isSubtype_type]; kernel_rfl)
theorem type_translate : typeOf (.builtin "bytes.translate") = pure (.type "method_descriptor") := by show builtinType _ = _; rw [builtinType_eq_fast]; kernel_rfl
theorem entry_translate : entryFor table "bytes.translate" = some Builtin.«bytes.translate» := entryFor_of_tree (by kernel_rfl)
theorem args_translate (a b : Value) : argsOk "bytes.translate" ⟨[a, b], []⟩ := by
  unfold argsOk; rw [signature?_of (id := "bytes.translate") (n := "translate".toList.reverse) (o := ['s', 'e', 't', 'y', 'b']) (by kernel_rfl) FB.owner_bytes]; kernel_rfl
theorem slot_upper : Slot "bytes" "upper" "bytes.upper" :=
  .of (owner := "bytes") (n := "upper") (by rw [typeLookup_type, builtinLookup_eq_fast]; kernel_rfl) (by decide +kernel) (by decide +kernel) (by decide +kernel)
    (by first | exact .inl (by decide +kernel) | exact .inr (by decide +kernel)) (by rw [isSubtype_type]; kernel_rfl)
theorem type_upper : typeOf (.builtin "bytes.upper") = pure (.type "method_descriptor") := by show builtinType _ = _; rw [builtinType_eq_fast]; kernel_rfl
theorem entry_upper : entryFor table "bytes.upper" = some Builtin.«bytes.upper» := entryFor_of_tree (by kernel_rfl)
theorem args_upper (a : Value) : argsOk "bytes.upper" ⟨[a], []⟩ := by
  unfold argsOk; rw [signature?_of (id := "bytes.upper") (n := "upper".toList.reverse) (o := ['s', 'e', 't', 'y', 'b']) (by kernel_rfl) FB.owner_bytes]; kernel_rfl
theorem args_decode2 (a b : Value) : argsOk "bytes.decode" ⟨[a, b], []⟩ := by
  unfold argsOk; rw [signature?_of (id := "bytes.decode") (n := "decode".toList.reverse) (o := ['s', 'e', 't', 'y', 'b']) (by kernel_rfl) FB.owner_bytes]; kernel_rfl
section
variable {prog : Program} {w : World} {A : Around} {E Q : Value → Shared → Prop} {s : Shared} {b c : Array UInt8} {t u : Tok}
theorem upper_eq : Builtin.«bytes.upper» ⟨[.bytes b t], []⟩ = (mkBytes (b.toList.map Builtin.Bytes.toUpper).toArray >>= fun v => ret v) := rfl
theorem wp_mkBytes {M : Model} {A : Around} {E : Value → Shared → Prop} {s : Shared} {b : Array UInt8} {Q : Value → Shared → Prop} (hb : b.size ≤ 16777216) (h : Q (.bytes b s.toks) { s with toks := s.toks + 1 }) : wpAny M A (mkBytes b) Q E s := by
  unfold mkBytes
  rw [if_neg (by rw [sizeLine_eq]; omega)]
  exact fun _ _ _ => h
theorem call_upper (hb : b.size ≤ 16777216) (h : ∀ t' k, Q (.bytes (b.toList.map Builtin.Bytes.toUpper).toArray t') { s with toks := k }) : wpAny (model prog w) A (call (.builtin "bytes.upper") [.bytes b t]) Q E s := by
  refine call_meets (S := fun _ R s => ∀ t' k, R (.ok (.ret (.bytes (b.toList.map Builtin.Bytes.toUpper).toArray t'))) { s with toks := k }) slot_upper (typeIs_bytes _ _ _) entry_upper (args_upper _) ?_ h
  refine .of_wp fun prog w A R s hS => ?_
  rw [upper_eq]
  exact wpAny_bind (wp_mkBytes (by simpa using hb) (wpAny_pure ⟨_, rfl, hS _ _⟩))
noncomputable def trans (c b : Array UInt8) : Array UInt8 := (b.filter fun x => !(#[] : Array UInt8).contains x).map fun x => c.getD x.toNat x
theorem call_translate (hc : c.size = 256) (hb : b.size ≤ 16777216) (h : ∀ t' k, Q (.bytes (trans c b) t') { s with toks := k }) : wpAny (model prog w) A (call (.builtin "bytes.translate") [.bytes b t, .bytes c u]) Q E s := by
  refine call_meets (S := fun _ R s => ∀ t' k, R (.ok (.ret (.bytes (trans c b) t'))) { s with toks := k }) slot_translate (typeIs_bytes _ _ _) entry_translate (args_translate _ _) ?_ h
  refine .of_wp fun prog w A R s hS => ?_
  show wpAny _ _ (Builtin.Bytes.bytesLike _ (.bytes c u) >>= fun r => _) _ _ s
  refine wpAny_bind (wpAny_of_eq KBd.like_eq ?_)
  show wpAny _ _ (if (c.size != 256) = true then _ else _) _ _ s
  rw [if_neg (by rw [hc]; decide)]
  show wpAny _ _ (if (trans c b == b) = true then _ else _) _ _ s
  by_cases he : (trans c b == b) = true
  · rw [if_pos he]
    refine wpAny_bind (wpAny_rule ?_)
    show wpAny _ _ (ret (.bytes b t)) _ _ s
    refine wpAny_pure ⟨_, rfl, ?_⟩
    have := hS t s.toks
    rw [beq_iff_eq.mp he] at this
    exact this
  · rw [if_neg he]
    show wpAny _ _ (mkBytes (trans c b) >>= fun v => ret v) _ _ s
    refine wpAny_bind (wp_mkBytes ?_ (wpAny_pure ⟨_, rfl, hS _ _⟩))
    unfold trans
    rw [Array.size_map]
    exact Nat.le_trans (Array.size_filter_le ..) hb
/-! bytes.hex -/
noncomputable def hexd (n : Nat) : Nat := Builtin.Bytes.hexDigit n
theorem hex_fold (sz : Nat) (l : List UInt8) : ∀ (k : Nat) (acc : Array Nat), (l.zipIdx k).foldl (fun (out : Array Nat) (x : UInt8 × Nat) => (out.push (hexd (x.1.toNat / 16))).push (hexd (x.1.toNat % 16))) acc = acc ++ (l.flatMap fun c => [hexd (c.toNat / 16), hexd (c.toNat % 16)]).toArray := by
  induction l with
  | nil => intro k acc; simp
  | cons c r ih =>
    intro k acc
    rw [List.zipIdx_cons, List.foldl_cons, ih]
    simp [List.flatMap_cons, ← List.append_toArray]
noncomputable def hexs (b : Array UInt8) : Str := ⟨(b.toList.flatMap fun c => [hexd (c.toNat / 16), hexd (c.toNat % 16)]).toArray⟩
theorem hex_eq : Builtin.«bytes.hex» ⟨[.bytes b t], []⟩ = retStr ⟨b.toList.zipIdx.foldl (fun (out : Array Nat) (x : UInt8 × Nat) => (out.push (hexd (x.1.toNat / 16))).push (hexd (x.1.toNat % 16))) #[]⟩ := rfl
theorem call_hex (hb : 2 * b.size ≤ 16777216) (h : ∀ t' k, Q (.str (hexs b) t') { s with toks := k }) : wpAny (model prog w) A (call (.builtin "bytes.hex") [.bytes b t]) Q E s := by
  refine call_meets (S := fun _ R s => ∀ t' k, R (.ok (.ret (.str (hexs b) t'))) { s with toks := k }) FB.slot_bytes_hex (typeIs_bytes _ _ _) FB.entry_bytes_hex (FB.args_bytes_hex_1 _) ?_ h
  refine .of_wp fun prog w A R s hS => ?_
  rw [hex_eq, hex_fold 0]
  have e : (⟨#[] ++ (b.toList.flatMap fun c => [hexd (c.toNat / 16), hexd (c.toNat % 16)]).toArray⟩ : Str) = hexs b := by simp [hexs]
  rw [e]
  refine wpAny_bind (wpAny_mkStr (wpAny_pure ⟨_, rfl, hS _ _⟩) ?_)
  show (hexs b).cps.size ≤ _
  rw [sizeLine_eq]
  have : ∀ l : List UInt8, (l.flatMap fun c => [hexd (c.toNat / 16), hexd (c.toNat % 16)]).length = 2 * l.length := by
    intro l; induction l with
    | nil => rfl
    | cons c r ih => rw [List.flatMap_cons, List.length_append, ih]; simp; omega
  simp only [hexs, List.size_toArray, this, Array.length_toList]
  exact hb
end
end

section
noncomputable def Asc (x : Str) : Prop := ∀ c ∈ x.cps.toList, c < 128
/-- the bytes of a text -/
noncomputable def asB (x : Str) : Array UInt8 := x.cps.map (·.toUInt8)
theorem not_bad {x : Str} (h : Asc x) : x.cps.findIdx? Builtin._codecs.asciiCodec.bad = none := by
  rw [Array.findIdx?_eq_none_iff]
  intro c hc
  have := h c (by simpa using hc)
  show decide (c ≥ 128) = false
  simp; omega
theorem foldB (l : List Nat) : ∀ acc : Array UInt8, l.foldl (fun acc y => acc ++ (Builtin._codecs.asciiCodec.bytesOf y).toArray) acc = acc ++ (l.map (·.toUInt8)).toArray := by
  induction l with
  | nil => intro acc; simp
  | cons c r ih =>
    intro acc
    rw [List.foldl_cons, ih]
    simp [Builtin._codecs.asciiCodec]
theorem forIn_two {β : Type} {f : Nat → β → Sem (ForInStep β)} {a b : β} {k : Nat} {l : List Nat} (h1 : f k a = pure (.yield b)) (h2 : ∀ i, f i b = pure (.done b)) : forIn (k :: l) a f = pure b := by
  rw [List.forIn_cons, h1]
  simp only [pure_bind]
  cases l with
  | nil => rfl
  | cons i r => rw [List.forIn_cons, h2]; simp only [pure_bind]
theorem forIn_rng {β : Type} {f : Nat → β → Sem (ForInStep β)} {a b : β} {n : Nat} (h0 : n = 0 → a = b) (h1 : 0 < n → f 0 a = pure (.yield b)) (h2 : ∀ i, f i b = pure (.done b)) : forIn (List.range' 0 ((n - 0 + 1 - 1) / 1)) a f = pure b := by
  cases n with
  | zero => rw [h0 rfl]; rfl
  | succ n =>
    rw [show (n + 1 - 0 + 1 - 1) / 1 = n + 1 by simp]
    exact forIn_two (h1 (Nat.succ_pos n)) h2
theorem asc_bad {cps : Array Nat} (h : Asc ⟨cps⟩) (hp : 0 < cps.size) : Builtin._codecs.asciiCodec.bad (cps[0]'hp) = false := by
  have := h (cps[0]'hp) (by simp)
  show decide (_ ≥ 128) = false
  simp; omega
theorem narrow_eq {id : String} {self : Value} {x : Str} (h : Asc x) (hz : x.cps.size ≤ 16777216) : Builtin._codecs.encodeNarrow id Builtin._codecs.asciiCodec none self x = pure (asB x) := by
  unfold Builtin._codecs.encodeNarrow
  dsimp only
  obtain ⟨cps⟩ := x
  have hb := not_bad h
  have hsz : (Str.mk cps).length = cps.size := rfl
  simp only [Std.Legacy.Range.forIn_eq_forIn_range', Std.Legacy.Range.size, hsz]
  rw [forIn_rng (b := (cps.size, asB ⟨cps⟩, {}))]
  · rw [pure_bind]
  · intro e
    have : cps = #[] := Array.eq_empty_of_size_eq_zero e
    subst this
    simp [asB]
  · intro hp
    dsimp only
    rw [if_neg (by decide), Array.getElem?_eq_getElem hp]
    dsimp only
    rw [asc_bad h hp]
    simp only [Bool.not_false, if_true]
    rw [Array.extract_size, hb]
    simp only [Option.getD_none, Array.extract_size]
    rw [← Array.foldl_toList, foldB, ← Array.toList_map, Array.toArray_toList, Nat.zero_add, Array.empty_append]
    rfl
  · intro i
    dsimp only
    rw [if_neg]
    · rw [Array.getElem?_eq_none (Nat.le_refl _)]
    · rw [sizeLine_eq]
      show ¬ (asB ⟨cps⟩).size > _
      unfold asB
      rw [Array.size_map]
      exact Nat.not_lt.mpr hz
/-! str.encode("ascii") -/
theorem normal_ascii : (Builtin._codecs.normalName (Str.ofString "ascii")).toString = "ascii" := by decide +kernel
theorem encode_eq {x : Str} {t u : Tok} : Builtin.«str.encode» ⟨[.str x t, .str (Str.ofString "ascii") u], []⟩ = ((Builtin._codecs.encodeNarrow "str.encode" Builtin._codecs.asciiCodec none (.str x t) x >>= fun b => mkBytes b) >>= fun v => ret v) := by
  kernel_rfl
theorem call_encode {prog : Program} {w : World} {A : Around} {E Q : Value → Shared → Prop} {s : Shared} {x : Str} {t u : Tok} (hx : Asc x) (hz : x.cps.size ≤ 16777216) (h : ∀ t' k, Q (.bytes (asB x) t') { s with toks := k }) :
    wpAny (model prog w) A (call (.builtin "str.encode") [.str x t, .str (Str.ofString "ascii") u]) Q E s := by
  refine call_meets (S := fun _ R s => ∀ t' k, R (.ok (.ret (.bytes (asB x) t'))) { s with toks := k }) PySem.F.slot_str_encode (typeIs_str _ _ _) PySem.F.entry_str_encode (PySem.F.args_str_encode_2 _ _) ?_ h
  refine .of_wp fun prog w A R s hS => ?_
  rw [encode_eq, narrow_eq hx hz]
  exact wpAny_bind (wpAny_bind (wpAny_pure (wp_mkBytes (by unfold asB; rw [Array.size_map]; exact hz) (wpAny_pure ⟨_, rfl, hS _ _⟩))))
/-! bytes.decode("ascii") -/
theorem forIn_steps {β : Type} {f : Nat → β → Sem (ForInStep β)} (g : Nat → β) (N : Nat) (h : ∀ i k, k < N → f i (g k) = pure (.yield (g (k + 1)))) : ∀ (l : List Nat) (k : Nat), k + l.length ≤ N → forIn l (g k) f = pure (g (k + l.length))
  | [], k, _ => by simp
  | i :: r, k, hk => by
    rw [List.length_cons] at hk
    rw [List.forIn_cons, h i k (by omega)]
    simp only [pure_bind]
    rw [forIn_steps g N h r (k + 1) (by omega), List.length_cons]
    congr 2; omega
noncomputable def dst (b : Array UInt8) (k : Nat) : Nat × Array Nat × Builtin._codecs.Faults := (k, (b.map (·.toNat)).extract 0 k, {})
theorem dec_loop {id : String} {b : Array UInt8} (hb : ∀ c ∈ b.toList, c.toNat < 128) (hz : b.size ≤ 16777216) :
    Builtin._codecs.runDecoder id Builtin._codecs.asciiDecoder none true b 0 [] = pure ((b.map (·.toNat)), b.size) := by
  unfold Builtin._codecs.runDecoder
  simp only [Std.Legacy.Range.forIn_eq_forIn_range', Std.Legacy.Range.size]
  rw [show (b.size - 0 + 1 - 1) / 1 = b.size by simp]
  have e0 : ((0 : Nat), (#[] : Array Nat), ({} : Builtin._codecs.Faults)) = dst b 0 := by simp [dst]
  rw [e0, forIn_steps (dst b) b.size]
  · rw [pure_bind, List.length_range', Nat.zero_add]
    dsimp only [dst]
    congr 2
    rw [show b.size = (b.map (·.toNat)).size by simp]
    exact Array.extract_size
  · intro i k hk
    dsimp only [dst]
    rw [if_neg (by rw [sizeLine_eq]; simp; omega), if_neg (by omega)]
    have hc : (b.getD k 0).toNat < 128 := by
      have : b.getD k 0 = b[k] := by simp [Array.getD, hk]
      rw [this]; exact hb _ (by simp)
    have hf : Builtin._codecs.asciiDecoder.find true b k = .text [(b.getD k 0).toNat] (k + 1) := by
      show (if (b.getD k 0).toNat < 128 then Builtin._codecs.Found.char _ _ else _) = _
      rw [if_pos hc]; rfl
    rw [hf]
    dsimp only
    congr 4
    have : b.getD k 0 = b[k] := by simp [Array.getD, hk]
    rw [this]
    apply Array.ext'
    simp [List.take_add_one, hk]
  · simp
theorem kind_text : builtinKind "_codecs.decode.text" = none := KBd.kind_text
theorem road_ascii {id : String} {b : Array UInt8} : Builtin._codecs.decodeRoad id b (PySem.Str.ofString "ascii") none [] = (Builtin._codecs.runDecoder id Builtin._codecs.asciiDecoder none true b 0 [] >>= fun r => mkStr ⟨r.1⟩) := by kernel_rfl
/-- the text of a bytes -/
noncomputable def asS (b : Array UInt8) : Str := ⟨b.map (·.toNat)⟩
theorem call_text {prog : Program} {w : World} {A : Around} {E Q : Value → Shared → Prop} {s : Shared} {b : Array UInt8} {t t1 t2 : Tok} {d : Str} (hb : ∀ c ∈ b.toList, c.toNat < 128) (hz : b.size ≤ 16777216) (h : ∀ t' k, Q (.str (asS b) t') { s with toks := k }) :
    wpAny (model prog w) A (call (.builtin "_codecs.decode.text") [.bytes b t, .str (PySem.Str.ofString "ascii") t1, .none, .str d t2]) Q E s := by
  refine call_function_meets (S := fun _ R s => ∀ t' k, R (.ok (.ret (.str (asS b) t'))) { s with toks := k }) KBd.kind_text KBd.plain_text KBd.entry_text (KBd.args_text _ _ _ _) ?_ h
  refine .of_wp fun prog w A R s hS => ?_
  show wpAny _ _ (Builtin.Bytes.bytesLike _ (.bytes b t) >>= fun r => _) _ _ s
  refine wpAny_bind (wpAny_of_eq KBd.like_eq ?_)
  refine wpAny_bind (wpAny_of_eq KBd.held_eq ?_)
  show wpAny _ _ (Builtin._codecs.decodeRoad _ b (PySem.Str.ofString "ascii") none [] >>= fun v => _) _ _ s
  rw [road_ascii, dec_loop hb hz]
  refine wpAny_bind (wpAny_bind (wpAny_pure ?_))
  exact wpAny_mkStr (wpAny_pure ⟨_, rfl, hS _ _⟩) (by show (b.map _).size ≤ _; rw [sizeLine_eq, Array.size_map]; exact hz)
theorem decode_eq {c : UInt8} {cs : List UInt8} {t u : Tok} : Builtin.«bytes.decode» ⟨[.bytes (c :: cs).toArray t, .str (PySem.Str.ofString "ascii") u], []⟩ = (mkStr (PySem.Str.ofString "utf-8") >>= fun _ => mkStr (PySem.Str.ofString "ascii") >>= fun e => mkStr (PySem.Str.ofString "bytes.decode") >>= fun d =>
    call (.builtin "_codecs.decode.text") [.bytes (c :: cs).toArray t, e, .none, d] >>= fun v => ret v) := by kernel_rfl
theorem call_decode {prog : Program} {w : World} {A : Around} {E Q : Value → Shared → Prop} {s : Shared} {b : Array UInt8} {t u : Tok} (h0 : b ≠ #[]) (hb : ∀ c ∈ b.toList, c.toNat < 128) (hz : b.size ≤ 16777216) (h : ∀ t' k, Q (.str (asS b) t') { s with toks := k }) :
    wpAny (model prog w) A (call (.builtin "bytes.decode") [.bytes b t, .str (PySem.Str.ofString "ascii") u]) Q E s := by
  refine call_meets (S := fun _ R s => ∀ t' k, R (.ok (.ret (.str (asS b) t'))) { s with toks := k }) FB.slot_bytes_decode (typeIs_bytes _ _ _) FB.entry_bytes_decode (args_decode2 _ _) ?_ h
  refine .of_wp fun prog w A R s hS => ?_
  obtain ⟨l⟩ := b
  cases l with
  | nil => exact absurd rfl h0
  | cons c cs =>
    rw [decode_eq]
    refine wpAny_bind (wpAny_mkStr ?_ (by decide))
    refine wpAny_bind (wpAny_mkStr ?_ (by decide))
    refine wpAny_bind (wpAny_mkStr ?_ (by decide))
    exact wpAny_bind (call_text hb hz fun t' k => wpAny_pure ⟨_, rfl, hS _ _⟩)
end

section
noncomputable def trE (c : Int) : Int := if c = 43 then 45 else if c = 47 then 95 else c
noncomputable def trD (c : Int) : Int := if c = 45 then 43 else if c = 95 then 47 else c
theorem filter_all (b : Array UInt8) : b.filter (fun x => !(#[] : Array UInt8).contains x) = b := by
  rw [Array.filter_eq_self]; intro a _; simp
theorem trans_lit {c : Array UInt8} {f : Int → Int} (hs : c.size = 256) (hc : ∀ n : Fin 256, c.getD n.val 0 = ((f n.val).toNat).toUInt8) {xs : List Int} (hx : Oct xs) : trans c (bz xs) = bz (xs.map f) := by
  unfold trans
  rw [filter_all]
  unfold bz
  rw [List.map_map]
  simp only [List.map_toArray, List.map_map]
  congr 1
  apply List.map_congr_left
  intro n hn
  have h := hx n hn
  simp only [Function.comp]
  have e : (n.toNat.toUInt8).toNat = n.toNat := by
    show (UInt8.ofNat n.toNat).toNat = _
    rw [UInt8.toNat_ofNat']; omega
  rw [e]
  have h2 := hc ⟨n.toNat, by omega⟩
  have h3 : ((⟨n.toNat, by omega⟩ : Fin 256).val : Int) = n := by show ((n.toNat : Nat) : Int) = n; omega
  rw [h3] at h2
  rw [← h2]
  have hlt : n.toNat < c.size := by rw [hs]; omega
  show c.getD n.toNat _ = c.getD n.toNat 0
  simp [Array.getD, hlt]
/-- base 64 with - and _ -/
noncomputable def encU (ks : List Int) : List Int := (enc64 ks).map trE
/-! base 16 -/
noncomputable def hexC (d : Int) : Int := if d < 10 then 48 + d else 55 + d
noncomputable def enc16 (ks : List Int) : List Int := ks.flatMap fun o => [hexC (o / 16), hexC (o % 16)]
theorem upper_hex : ∀ n : Fin 256, Builtin.Bytes.toUpper ((hexd (n.val / 16)).toUInt8) = ((hexC ((n.val : Int) / 16)).toNat).toUInt8 ∧ Builtin.Bytes.toUpper ((hexd (n.val % 16)).toUInt8) = ((hexC ((n.val : Int) % 16)).toNat).toUInt8 := by decide +kernel
theorem hex_up (b : Array UInt8) : ((asB (hexs b)).toList.map Builtin.Bytes.toUpper).toArray = bz (enc16 (KBw.bInts b)) := by
  unfold asB hexs bz enc16 KBw.bInts
  congr 1
  simp only [List.map_toArray]
  induction b.toList with
  | nil => rfl
  | cons c r ih =>
    simp only [List.flatMap_cons, List.map_cons, List.map_append, List.map_nil, List.cons_append, List.nil_append, ih]
    have h := upper_hex ⟨c.toNat, c.toNat_lt⟩
    rw [h.1, h.2]
theorem hexd_lt : ∀ n : Fin 16, hexd n.val < 128 := by decide +kernel
theorem hex_asc (b : Array UInt8) : Asc (hexs b) := by
  intro c hc
  unfold hexs at hc
  obtain ⟨x, _, hx⟩ := List.mem_flatMap.mp hc
  have := x.toNat_lt
  rcases List.mem_cons.mp hx with rfl | hx
  · exact hexd_lt ⟨x.toNat / 16, by omega⟩
  · rw [List.mem_singleton.mp hx]; exact hexd_lt ⟨x.toNat % 16, by omega⟩
theorem hex_size (b : Array UInt8) : (hexs b).cps.size = 2 * b.size := by
  have : ∀ l : List UInt8, (l.flatMap fun c => [hexd (c.toNat / 16), hexd (c.toNat % 16)]).length = 2 * l.length := by
    intro l; induction l with
    | nil => rfl
    | cons c r ih => rw [List.flatMap_cons, List.length_append, ih]; simp; omega
  simp [hexs, this]
theorem enc64_oct {ks : List Int} (h : Oct ks) : Oct (enc64 ks) := by
  have h8 := f64 ks h
  unfold enc64
  refine oct_app ?_ ?_
  · intro n hn
    obtain ⟨d, hd, rfl⟩ := List.mem_map.mp hn
    have : 0 ≤ d ∧ d < 64 := by
      unfold dig64 at hd
      dsimp only at hd
      have hp := h8.ph
      split at hd
      · exact h8.dg d hd
      · split at hd
        · rcases List.mem_append.mp hd with hd | hd
          · exact h8.dg d hd
          · rw [List.mem_singleton.mp hd]; omega
        · rcases List.mem_append.mp hd with hd | hd
          · exact h8.dg d hd
          · rw [List.mem_singleton.mp hd]; omega
    exact b64c_in d this.1 this.2
  · intro n hn; rw [List.eq_of_mem_replicate hn]; decide
theorem enc64_len {ks : List Int} (h : Oct ks) : (enc64 ks).length ≤ 2 * ks.length + 4 := by
  have h8 := f64 ks h
  unfold enc64 dig64 pad64
  have hp := h8.ph
  have hl := h8.ln
  dsimp only
  (repeat' split) <;> simp only [List.length_append, List.length_map, List.length_replicate, List.length_cons, List.length_nil] <;> omega
end

section
/-! base 64 read -/
noncomputable def stepD (s : List Int × Int × Int) (d : Int) : List Int × Int × Int :=
  if s.2.1 = 0 then (s.1, 1, d)
  else if s.2.1 = 1 then (s.1 ++ [s.2.2 * 4 + d / 16], 2, d % 16)
  else if s.2.1 = 2 then (s.1 ++ [s.2.2 * 16 + d / 4], 3, d % 4)
  else (s.1 ++ [s.2.2 * 64 + d], 0, 0)
noncomputable def foldD (ds : List Int) : List Int × Int × Int := ds.foldl stepD ([], 0, 0)
theorem foldD_snoc (ds : List Int) (d : Int) : foldD (ds ++ [d]) = stepD (foldD ds) d := by unfold foldD; rw [List.foldl_append]; rfl
theorem foldD_nil : foldD [] = ([], 0, 0) := rfl
structure FD (ks : List Int) : Prop where
  x : ((fold64 ks).2.1 = 0 ∧ foldD (fold64 ks).1 = (ks, 0, 0)) ∨
    ((fold64 ks).2.1 = 1 ∧ ∃ r o, ks = r ++ [o] ∧ (fold64 ks).2.2 = o % 4 ∧ foldD (fold64 ks).1 = (r, 1, o / 4)) ∨
    ((fold64 ks).2.1 = 2 ∧ ∃ r o, ks = r ++ [o] ∧ (fold64 ks).2.2 = o % 16 ∧ foldD (fold64 ks).1 = (r, 2, o / 16))
theorem fD (ks : List Int) (h : Oct ks) : FD ks := by
  revert h
  refine snocInd (P := fun ks => Oct ks → FD ks) ?_ ?_ ks
  · intro _; exact ⟨.inl ⟨rfl, rfl⟩⟩
  · intro ks o ih h
    have ho := h o (by simp)
    have hk : Oct ks := fun k hk => h k (by simp [hk])
    have f8 := f64 ks hk
    have ih := (ih hk).x
    rcases ih with ⟨hp, hd⟩ | ⟨hp, r, o1, e1, hh, hd⟩ | ⟨hp, r, o1, e1, hh, hd⟩
    · have e := step_0 (o := o) hp
      refine ⟨.inr (.inl ?_)⟩
      rw [e]
      dsimp only
      refine ⟨rfl, ks, o, rfl, rfl, ?_⟩
      rw [foldD_snoc, hd]
      rfl
    · have e := step_1 (o := o) hp
      have hq := f8.ph
      have ho1 := hk o1 (by rw [e1]; simp)
      refine ⟨.inr (.inr ?_)⟩
      rw [e]
      dsimp only
      refine ⟨rfl, ks, o, rfl, rfl, ?_⟩
      rw [foldD_snoc, hd]
      show (r ++ [o1 / 4 * 4 + ((fold64 ks).2.2 * 16 + o / 16) / 16], (2 : Int), ((fold64 ks).2.2 * 16 + o / 16) % 16) = _
      have e3 : o1 / 4 * 4 + ((fold64 ks).2.2 * 16 + o / 16) / 16 = o1 := by rw [hh]; omega
      have e4 : ((fold64 ks).2.2 * 16 + o / 16) % 16 = o / 16 := by omega
      rw [e3, e4, ← e1]
    · have e := step_2 (o := o) hp
      have ho1 := hk o1 (by rw [e1]; simp)
      refine ⟨.inl ?_⟩
      rw [e]
      dsimp only
      refine ⟨rfl, ?_⟩
      rw [show (fold64 ks).1 ++ [(fold64 ks).2.2 * 4 + o / 64, o % 64] = ((fold64 ks).1 ++ [(fold64 ks).2.2 * 4 + o / 64]) ++ [o % 64] by simp, foldD_snoc, foldD_snoc, hd]
      show ((r ++ [o1 / 16 * 16 + ((fold64 ks).2.2 * 4 + o / 64) / 4]) ++ [((fold64 ks).2.2 * 4 + o / 64) % 4 * 64 + o % 64], (0 : Int), (0 : Int)) = _
      have e3 : o1 / 16 * 16 + ((fold64 ks).2.2 * 4 + o / 64) / 4 = o1 := by rw [hh]; omega
      have e4 : ((fold64 ks).2.2 * 4 + o / 64) % 4 * 64 + o % 64 = o := by omega
      rw [e3, e4, ← e1]
/-- what is read: the octets; the place; the pads that are due -/
theorem foldD_dig {ks : List Int} (h : Oct ks) : (foldD (dig64 ks)).1 = ks ∧ (((foldD (dig64 ks)).2.1 = 0 ∧ pad64 ks = 0) ∨ ((foldD (dig64 ks)).2.1 = 2 ∧ pad64 ks = 2) ∨ ((foldD (dig64 ks)).2.1 = 3 ∧ pad64 ks = 1)) := by
  have hx := (fD ks h).x
  unfold dig64 pad64
  dsimp only
  rcases hx with ⟨hp, hd⟩ | ⟨hp, r, o1, e1, hh, hd⟩ | ⟨hp, r, o1, e1, hh, hd⟩
  · simp [hp, hd]
  · have ho1 := h o1 (by rw [e1]; simp)
    simp only [hp, show ¬ (1 : Int) = 0 by decide, if_false, if_true]
    rw [foldD_snoc, hd]
    show (r ++ [o1 / 4 * 4 + ((fold64 ks).2.2 * 16) / 16]) = ks ∧ _
    have e3 : o1 / 4 * 4 + ((fold64 ks).2.2 * 16) / 16 = o1 := by rw [hh]; omega
    rw [e3, ← e1]
    exact ⟨rfl, .inr (.inl ⟨rfl, trivial⟩)⟩
  · have ho1 := h o1 (by rw [e1]; simp)
    simp only [hp, show ¬ (2 : Int) = 0 by decide, show ¬ (2 : Int) = 1 by decide, if_false]
    rw [foldD_snoc, hd]
    show (r ++ [o1 / 16 * 16 + ((fold64 ks).2.2 * 4) / 4]) = ks ∧ _
    have e3 : o1 / 16 * 16 + ((fold64 ks).2.2 * 4) / 4 = o1 := by rw [hh]; omega
    rw [e3, ← e1]
    exact ⟨rfl, .inr (.inr ⟨rfl, trivial⟩)⟩
theorem dig64_in {ks : List Int} (h : Oct ks) : ∀ d ∈ dig64 ks, 0 ≤ d ∧ d < 64 := by
  have h8 := f64 ks h
  intro d hd
  unfold dig64 at hd
  dsimp only at hd
  have hp := h8.ph
  split at hd
  · exact h8.dg d hd
  · split at hd
    · rcases List.mem_append.mp hd with hd | hd
      · exact h8.dg d hd
      · rw [List.mem_singleton.mp hd]; omega
    · rcases List.mem_append.mp hd with hd | hd
      · exact h8.dg d hd
      · rw [List.mem_singleton.mp hd]; omega
/-- the bounds while reading -/
structure RD (ds : List Int) : Prop where
  q : ((foldD ds).2.1 = 0 ∧ (foldD ds).2.2 = 0) ∨ ((foldD ds).2.1 = 1 ∧ 0 ≤ (foldD ds).2.2 ∧ (foldD ds).2.2 < 64) ∨ ((foldD ds).2.1 = 2 ∧ 0 ≤ (foldD ds).2.2 ∧ (foldD ds).2.2 < 16) ∨ ((foldD ds).2.1 = 3 ∧ 0 ≤ (foldD ds).2.2 ∧ (foldD ds).2.2 < 4)
  n : (foldD ds).1.length ≤ ds.length
theorem rD (ds : List Int) (h : ∀ d ∈ ds, 0 ≤ d ∧ d < 64) : RD ds := by
  revert h
  refine snocInd (P := fun ds => (∀ d ∈ ds, 0 ≤ d ∧ d < 64) → RD ds) ?_ ?_ ds
  · intro _; exact ⟨.inl ⟨rfl, rfl⟩, Nat.le_refl _⟩
  · intro ds d ih h
    have hd := h d (by simp)
    obtain ⟨q, n⟩ := ih fun k hk => h k (by simp [hk])
    have e := foldD_snoc ds d
    revert q n e
    rcases foldD ds with ⟨o, p, l⟩
    intro q n e
    dsimp only at q n
    unfold stepD at e
    dsimp only at e
    rcases q with ⟨rfl, _⟩ | ⟨rfl, _⟩ | ⟨rfl, _⟩ | ⟨rfl, _⟩
    · simp only [if_true] at e
      refine ⟨?_, ?_⟩ <;> rw [e] <;> dsimp only
      · right; left; omega
      · simp only [List.length_append, List.length_cons, List.length_nil]; omega
    · simp only [show ¬ (1 : Int) = 0 by decide, if_false, if_true] at e
      refine ⟨?_, ?_⟩ <;> rw [e] <;> dsimp only
      · right; right; left; omega
      · simp only [List.length_append, List.length_cons, List.length_nil]; omega
    · simp only [show ¬ (2 : Int) = 0 by decide, show ¬ (2 : Int) = 1 by decide, if_false, if_true] at e
      refine ⟨?_, ?_⟩ <;> rw [e] <;> dsimp only
      · right; right; right; omega
      · simp only [List.length_append, List.length_cons, List.length_nil]; omega
    · simp only [show ¬ (3 : Int) = 0 by decide, show ¬ (3 : Int) = 1 by decide, show ¬ (3 : Int) = 2 by decide, if_false] at e
      refine ⟨?_, ?_⟩ <;> rw [e] <;> dsimp only
      · left; exact ⟨rfl, rfl⟩
      · simp only [List.length_append, List.length_cons, List.length_nil]; omega
/-! reading a sign back -/
theorem b64v_c : ∀ n : Fin 64, (if 65 ≤ B64L.getD n.val 0 ∧ B64L.getD n.val 0 ≤ 90 then B64L.getD n.val 0 - 65 else if 97 ≤ B64L.getD n.val 0 ∧ B64L.getD n.val 0 ≤ 122 then B64L.getD n.val 0 - 71 else if 48 ≤ B64L.getD n.val 0 ∧ B64L.getD n.val 0 ≤ 57 then B64L.getD n.val 0 + 4 else if B64L.getD n.val 0 = 43 then 62 else if B64L.getD n.val 0 = 47 then 63 else 64) = (n.val : Int) := by decide
noncomputable def b64v (c : Int) : Int := if 65 ≤ c ∧ c ≤ 90 then c - 65 else if 97 ≤ c ∧ c ≤ 122 then c - 71 else if 48 ≤ c ∧ c ≤ 57 then c + 4 else if c = 43 then 62 else if c = 47 then 63 else 64
theorem b64v_b64c {d : Int} (h0 : 0 ≤ d) (h1 : d < 64) : b64v (b64c d) = d := by
  have h := b64v_c ⟨d.toNat, by omega⟩
  have e : ((⟨d.toNat, by omega⟩ : Fin 64).val : Int) = d := by show ((d.toNat : Nat) : Int) = d; omega
  rw [e] at h
  exact h
theorem b64c_ne61 {d : Int} (h0 : 0 ≤ d) (h1 : d < 64) : b64c d ≠ 61 := by
  have : ∀ n : Fin 64, B64L.getD n.val 0 ≠ 61 := by decide
  exact this ⟨d.toNat, by omega⟩
/-- a place in what was written -/
theorem at_enc {ks pre post : List Int} {n : Int} (e : enc64 ks = pre ++ n :: post) :
    (∃ d, pre.length < (dig64 ks).length ∧ (dig64 ks)[pre.length]? = some d ∧ n = b64c d) ∨ (n = 61 ∧ (dig64 ks).length ≤ pre.length ∧ pre.length < (dig64 ks).length + pad64 ks) := by
  have hn : (enc64 ks)[pre.length]? = some n := by rw [e]; simp
  unfold enc64 at hn
  by_cases h : pre.length < (dig64 ks).length
  · left
    rw [List.getElem?_append_left (by simpa using h), List.getElem?_map] at hn
    rw [List.getElem?_eq_getElem h] at hn ⊢
    exact ⟨_, h, rfl, by simpa using hn.symm⟩
  · right
    rw [List.getElem?_append_right (by simp; omega)] at hn
    obtain ⟨h1, h2⟩ := List.getElem?_eq_some_iff.mp hn
    simp only [List.length_map, List.length_replicate] at h1
    rw [List.getElem_replicate] at h2
    exact ⟨h2.symm, by omega, by omega⟩
theorem take_snoc {ds : List Int} {k : Nat} {d : Int} (h : ds[k]? = some d) : ds.take (k + 1) = ds.take k ++ [d] := by simp [List.take_add_one, h]
theorem turnA {ds pre : List Int} {o d : Int} (h : ds[pre.length]? = some d) : foldD (ds.take (pre ++ [o]).length) = stepD (foldD (ds.take pre.length)) d := by
  rw [List.length_append, List.length_singleton, take_snoc h, foldD_snoc]
section
variable {S : List Int × Int × Int} {xs : List Int} {lc d : Int}
theorem fin0 (hq : 0 = S.2.1) (hxs : xs = S.1) : xs = (stepD S d).1 ∧ 1 = (stepD S d).2.1 ∧ d = (stepD S d).2.2 := by
  unfold stepD; simp [← hq, hxs]
theorem fin1 (hq : 1 = S.2.1) (hlc : lc = S.2.2) (hxs : xs = S.1) (h0 : 0 ≤ lc) (hd0 : 0 ≤ d) (hd1 : d < 64) :
    xs ++ [Builtin.bitOr (lc * 2 ^ Int.toNat 2) (d.fdiv (2 ^ Int.toNat 4))] = (stepD S d).1 ∧ 2 = (stepD S d).2.1 ∧ Builtin.bitAnd d 15 = (stepD S d).2.2 := by
  have e : Builtin.bitOr (lc * 2 ^ Int.toNat 2) (d.fdiv (2 ^ Int.toNat 4)) = lc * 4 + d / 16 := by
    rw [show Int.toNat 2 = 2 from rfl, show Int.toNat 4 = 4 from rfl, Int.fdiv_eq_ediv_of_nonneg _ (by decide), show (2 : Int) ^ 4 = 16 from rfl, bitOr_hi lc (d / 16) 2 h0 (by omega) (by show d / 16 < 4; omega)]; rfl
  rw [e, bitAnd_m4]
  unfold stepD; simp [← hq, hxs, hlc]
theorem fin2 (hq : 2 = S.2.1) (hlc : lc = S.2.2) (hxs : xs = S.1) (h0 : 0 ≤ lc) (hd0 : 0 ≤ d) (hd1 : d < 64) :
    xs ++ [Builtin.bitOr (lc * 2 ^ Int.toNat 4) (d.fdiv (2 ^ Int.toNat 2))] = (stepD S d).1 ∧ 3 = (stepD S d).2.1 ∧ Builtin.bitAnd d 3 = (stepD S d).2.2 := by
  have e : Builtin.bitOr (lc * 2 ^ Int.toNat 4) (d.fdiv (2 ^ Int.toNat 2)) = lc * 16 + d / 4 := by
    rw [show Int.toNat 2 = 2 from rfl, show Int.toNat 4 = 4 from rfl, Int.fdiv_eq_ediv_of_nonneg _ (by decide), show (2 : Int) ^ 2 = 4 from rfl, bitOr_hi lc (d / 4) 4 h0 (by omega) (by show d / 4 < 16; omega)]; rfl
  rw [e, bitAnd_m2]
  unfold stepD; simp [← hq, hxs, hlc]
theorem fin3 (hq : 3 = S.2.1) (hlc : lc = S.2.2) (hxs : xs = S.1) (h0 : 0 ≤ lc) (hd0 : 0 ≤ d) (hd1 : d < 64) :
    xs ++ [Builtin.bitOr (lc * 2 ^ Int.toNat 6) d] = (stepD S d).1 ∧ 0 = (stepD S d).2.1 ∧ 0 = (stepD S d).2.2 := by
  have e : Builtin.bitOr (lc * 2 ^ Int.toNat 6) d = lc * 64 + d := by
    rw [show Int.toNat 6 = 6 from rfl, bitOr_hi lc d 6 h0 hd0 (by show d < 64; omega)]; rfl
  rw [e]
  unfold stepD; simp [← hq, hxs, hlc]
end
end

section
/-! the loop of a2b_base64, in plain lists -/
structure AInv (ks pre xs : List Int) (q lc pd : Int) : Prop where
  hxs : xs = (foldD ((dig64 ks).take pre.length)).1
  hq : q = (foldD ((dig64 ks).take pre.length)).2.1
  hlc : lc = (foldD ((dig64 ks).take pre.length)).2.2
  hpd : pd = ((pre.length - (dig64 ks).length : Nat) : Int)
theorem AInv.start {ks : List Int} : AInv ks [] [] 0 0 0 := ⟨by simp [foldD], by simp [foldD], by simp [foldD], by simp⟩
/-- what the next sign is -/
inductive AWay (ks pre xs : List Int) (q lc o : Int) : Int → Prop
  | dig (h61 : o ≠ 61) (h0 : 0 ≤ b64v o) (h64 : b64v o < 64) (hl0 : 0 ≤ lc) (hl : lc.natAbs < 2 ^ 64) (hn : xs.length ≤ 20000)
      (e0 : q = 0 → AInv ks (pre ++ [o]) xs 1 (b64v o) 0) (e1 : q = 1 → AInv ks (pre ++ [o]) (xs ++ [Builtin.bitOr (lc * 2 ^ Int.toNat 2) ((b64v o).fdiv (2 ^ Int.toNat 4))]) 2 (Builtin.bitAnd (b64v o) 15) 0)
      (e2 : q = 2 → AInv ks (pre ++ [o]) (xs ++ [Builtin.bitOr (lc * 2 ^ Int.toNat 4) ((b64v o).fdiv (2 ^ Int.toNat 2))]) 3 (Builtin.bitAnd (b64v o) 3) 0)
      (e3 : q ≠ 0 → q ≠ 1 → q ≠ 2 → AInv ks (pre ++ [o]) (xs ++ [Builtin.bitOr (lc * 2 ^ Int.toNat 6) (b64v o)]) 0 0 0) : AWay ks pre xs q lc o 0
  | pad (pd : Int) (h61 : o = 61) (h2 : 2 ≤ q) (h4 : q + (pd + 1) ≤ 4) (e : AInv ks (pre ++ [61]) xs q lc (pd + 1)) : AWay ks pre xs q lc o pd
theorem rq_lc {q lc : Int} (h : (q = 0 ∧ lc = 0) ∨ (q = 1 ∧ 0 ≤ lc ∧ lc < 64) ∨ (q = 2 ∧ 0 ≤ lc ∧ lc < 16) ∨ (q = 3 ∧ 0 ≤ lc ∧ lc < 4)) : 0 ≤ lc ∧ lc < 64 := by
  rcases h with ⟨_, h⟩ | ⟨_, h⟩ | ⟨_, h⟩ | ⟨_, h⟩
  · subst h; decide
  · exact h
  · exact ⟨h.1, Int.lt_trans h.2 (by decide)⟩
  · exact ⟨h.1, Int.lt_trans h.2 (by decide)⟩
theorem nat_lt64 {x : Int} (h0 : 0 ≤ x) (h : x < 64) : x.natAbs < 2 ^ 64 := by omega
theorem rq_3 {q lc : Int} (h : (q = 0 ∧ lc = 0) ∨ (q = 1 ∧ 0 ≤ lc ∧ lc < 64) ∨ (q = 2 ∧ 0 ≤ lc ∧ lc < 16) ∨ (q = 3 ∧ 0 ≤ lc ∧ lc < 4)) (n0 : q ≠ 0) (n1 : q ≠ 1) (n2 : q ≠ 2) : q = 3 := by
  rcases h with ⟨h, _⟩ | ⟨h, _⟩ | ⟨h, _⟩ | ⟨h, _⟩
  · exact absurd h n0
  · exact absurd h n1
  · exact absurd h n2
  · exact h
theorem ks_le {n : Nat} (h : n ≤ 5000) : 2 * n + 4 ≤ 20000 := by omega
theorem pad_le {q : Int} {p d : Nat} (h : (q = 0 ∧ p = 0) ∨ (q = 2 ∧ p = 2) ∨ (q = 3 ∧ p = 1)) (hd : d < p) : 2 ≤ q ∧ q + ((d : Int) + 1) ≤ 4 := by
  rcases h with ⟨_, rfl⟩ | ⟨rfl, rfl⟩ | ⟨rfl, rfl⟩
  · exact absurd hd (Nat.not_lt_zero _)
  · exact ⟨by decide, by omega⟩
  · exact ⟨by decide, by omega⟩
theorem pad_one {n d : Nat} : ((n + d + 1 - n : Nat) : Int) = (d : Int) + 1 := by rw [Nat.add_assoc, Nat.add_sub_cancel_left]; rfl
theorem AInv.way {ks pre post xs : List Int} {q lc pd o : Int} (P : AInv ks pre xs q lc pd) (hk : Oct ks) (hb : ks.length ≤ 5000) (e : enc64 ks = pre ++ o :: post) : AWay ks pre xs q lc o pd := by
  obtain ⟨hxs, hq, hlc, hpd⟩ := P
  have hdl := dig64_in hk
  have hfd := foldD_dig hk
  have hln : (enc64 ks).length = (dig64 ks).length + pad64 ks := by unfold enc64; simp
  have hrd := rD ((dig64 ks).take pre.length) (fun d hd => hdl d (List.mem_of_mem_take hd))
  have hrq := hrd.q
  rcases at_enc e with ⟨d, hlt2, hd, hod⟩ | ⟨ho, hge, hlt2⟩
  · have hd2 := hdl d (List.mem_of_getElem? hd)
    have hbv : b64v o = d := by rw [hod]; exact b64v_b64c hd2.1 hd2.2
    have h61 : o ≠ 61 := by rw [hod]; exact b64c_ne61 hd2.1 hd2.2
    have hz9 : (0 : Int) = (((pre ++ [o]).length - (dig64 ks).length : Nat) : Int) := by rw [List.length_append, List.length_singleton, Nat.sub_eq_zero_of_le hlt2]; rfl
    obtain rfl : pd = 0 := by rw [hpd, Nat.sub_eq_zero_of_le (Nat.le_of_lt hlt2)]; rfl
    rw [← hq, ← hlc] at hrq
    have hl := rq_lc hrq
    rw [← hbv] at hd hd2
    have hn : xs.length ≤ 20000 := by
      rw [hxs]
      exact Nat.le_trans hrd.n (Nat.le_trans (List.length_take_le' _ _) (Nat.le_trans (Nat.le_add_right _ _) (Nat.le_trans (Nat.le_trans (Nat.le_of_eq hln.symm) (enc64_len hk)) (ks_le hb))))
    refine .dig h61 hd2.1 hd2.2 hl.1 (nat_lt64 hl.1 hl.2) hn (fun h => ?_) (fun h => ?_) (fun h => ?_) (fun n0 n1 n2 => ?_)
    · subst h
      have h9 := fin0 (d := b64v o) hq hxs
      rw [← turnA hd] at h9
      exact ⟨h9.1, h9.2.1, h9.2.2, hz9⟩
    · subst h
      have h9 := fin1 (d := b64v o) hq hlc hxs hl.1 hd2.1 hd2.2
      rw [← turnA hd] at h9
      exact ⟨h9.1, h9.2.1, h9.2.2, hz9⟩
    · subst h
      have h9 := fin2 (d := b64v o) hq hlc hxs hl.1 hd2.1 hd2.2
      rw [← turnA hd] at h9
      exact ⟨h9.1, h9.2.1, h9.2.2, hz9⟩
    · obtain rfl := rq_3 hrq n0 n1 n2
      have h9 := fin3 (d := b64v o) hq hlc hxs hl.1 hd2.1 hd2.2
      rw [← turnA hd] at h9
      exact ⟨h9.1, h9.2.1, h9.2.2, hz9⟩
  · have htk : (dig64 ks).take pre.length = dig64 ks := List.take_of_length_le hge
    have htk2 : (dig64 ks).take (pre ++ [61]).length = dig64 ks := List.take_of_length_le (by rw [List.length_append]; exact Nat.le_trans hge (Nat.le_add_right _ _))
    rw [htk] at hxs hq hlc
    have hfq := hfd.2
    rw [← hq] at hfq
    obtain ⟨d, hd⟩ := Nat.exists_eq_add_of_le hge
    rw [hd] at hlt2
    have h9 := pad_le hfq (Nat.lt_of_add_lt_add_left hlt2)
    rw [hd, Nat.add_sub_cancel_left] at hpd
    subst hpd
    refine .pad _ ho h9.1 h9.2 ⟨by rw [htk2]; exact hxs, by rw [htk2]; exact hq, by rw [htk2]; exact hlc, ?_⟩
    rw [List.length_append, List.length_singleton, hd, pad_one]
structure AFin (ks xs : List Int) (q pd : Int) : Prop where
  x : xs = ks
  n1 : q ≠ 1
  fin : q = 0 ∨ q + pd = 4
theorem AInv.fin {ks xs : List Int} {q lc pd : Int} (P : AInv ks (enc64 ks) xs q lc pd) (hk : Oct ks) : AFin ks xs q pd := by
  obtain ⟨hxs, hq, hlc, hpd⟩ := P
  have hfd := foldD_dig hk
  have hln : (enc64 ks).length = (dig64 ks).length + pad64 ks := by unfold enc64; simp
  have htk : (dig64 ks).take (enc64 ks).length = dig64 ks := List.take_of_length_le (by rw [hln]; exact Nat.le_add_right _ _)
  rw [htk] at hxs hq
  rw [hfd.1] at hxs
  have hfq := hfd.2
  rw [← hq] at hfq
  rw [hln, Nat.add_sub_cancel_left] at hpd
  rcases hfq with ⟨rfl, _⟩ | ⟨rfl, hp⟩ | ⟨rfl, hp⟩
  · exact ⟨hxs, by decide, .inl rfl⟩
  · exact ⟨hxs, by decide, .inr (by rw [hpd, hp]; rfl)⟩
  · exact ⟨hxs, by decide, .inr (by rw [hpd, hp]; rfl)⟩
end

section
/-- a text of codes -/
noncomputable def sz (ns : List Int) : Str := ⟨(ns.map Int.toNat).toArray⟩
noncomputable def As (ns : List Int) : Prop := ∀ n ∈ ns, 0 ≤ n ∧ n < 128
theorem As.oct {ns : List Int} (h : As ns) : Oct ns := fun n hn => by have := h n hn; omega
theorem asB_sz (ns : List Int) : asB (sz ns) = bz ns := by
  unfold asB sz bz
  simp only [List.map_toArray, List.map_map]
  rfl
theorem asc_sz {ns : List Int} (h : As ns) : Asc (sz ns) := by
  intro c hc
  have hc' : c ∈ ns.map Int.toNat := hc
  obtain ⟨n, hn, rfl⟩ := List.mem_map.mp hc'
  have := h n hn; omega
theorem size_sz (ns : List Int) : (sz ns).cps.size = ns.length := by simp [sz]
theorem length_sz (ns : List Int) : (sz ns).length = ns.length := size_sz ns
theorem asS_bz {ns : List Int} (h : Oct ns) : asS (bz ns) = sz ns := by
  unfold asS bz sz
  congr 1
  simp only [List.map_toArray, List.map_map]
  congr 1
  apply List.map_congr_left
  intro n hn
  have := h n hn
  simp only [Function.comp]
  show (UInt8.ofNat n.toNat).toNat = _
  rw [UInt8.toNat_ofNat']; omega
theorem size_bz (ns : List Int) : (bz ns).size = ns.length := by simp [bz]
theorem bz_lt {ns : List Int} (h : As ns) : ∀ c ∈ (bz ns).toList, c.toNat < 128 := by
  intro c hc
  have hc' : c ∈ ns.map fun n => n.toNat.toUInt8 := hc
  obtain ⟨n, hn, rfl⟩ := List.mem_map.mp hc'
  have := h n hn
  show (UInt8.ofNat n.toNat).toNat < 128
  rw [UInt8.toNat_ofNat']; omega
theorem sz_inj {a b : List Int} (ha : As a) (hb : As b) (h : sz a = sz b) : a = b := by
  have h2 : asB (sz a) = asB (sz b) := by rw [h]
  rw [asB_sz, asB_sz] at h2
  rw [← bInts_bz ha.oct, ← bInts_bz hb.oct, h2]
theorem as_app {a b : List Int} (ha : As a) (hb : As b) : As (a ++ b) := fun n hn => (List.mem_append.mp hn).elim (ha n) (hb n)
theorem b64c_as (d : Int) (h0 : 0 ≤ d) (h1 : d < 64) : 0 ≤ b64c d ∧ b64c d < 128 := by
  have : ∀ n : Fin 64, 0 ≤ B64L.getD n.val 0 ∧ B64L.getD n.val 0 < 128 := by decide
  exact this ⟨d.toNat, by omega⟩
theorem enc64_as {ks : List Int} (h : Oct ks) : As (enc64 ks) := by
  unfold enc64
  refine as_app ?_ ?_
  · intro n hn
    obtain ⟨d, hd, rfl⟩ := List.mem_map.mp hn
    have := dig64_in h d hd
    exact b64c_as d this.1 this.2
  · intro n hn; rw [List.eq_of_mem_replicate hn]; decide
theorem encU_as {ks : List Int} (h : Oct ks) : As (encU ks) := by
  intro n hn
  unfold encU at hn
  obtain ⟨c, hc, rfl⟩ := List.mem_map.mp hn
  have := enc64_as h c hc
  unfold trE
  (repeat' split) <;> omega
theorem hexC_as {d : Int} (h0 : 0 ≤ d) (h1 : d < 16) : 48 ≤ hexC d ∧ hexC d ≤ 70 := by unfold hexC; split <;> omega
theorem enc16_as {ks : List Int} (h : Oct ks) : As (enc16 ks) := by
  intro n hn
  unfold enc16 at hn
  obtain ⟨o, ho, hm⟩ := List.mem_flatMap.mp hn
  have := h o ho
  rcases List.mem_cons.mp hm with rfl | hm
  · have := hexC_as (d := o / 16) (by omega) (by omega); omega
  · rw [List.mem_singleton.mp hm]; have := hexC_as (d := o % 16) (by omega) (by omega); omega
theorem enc16_len (ks : List Int) : (enc16 ks).length = 2 * ks.length := by
  unfold enc16
  induction ks with
  | nil => rfl
  | cons c r ih => rw [List.flatMap_cons, List.length_append, ih]; simp; omega
theorem trD_trE {c : Int} (h1 : c ≠ 45) (h2 : c ≠ 95) : trD (trE c) = c := by
  unfold trE trD
  by_cases h3 : c = 43
  · simp [h3]
  · by_cases h4 : c = 47
    · simp [h4]
    · simp [h1, h2, h3, h4]
theorem b64c_ne {d : Int} (h0 : 0 ≤ d) (h1 : d < 64) : b64c d ≠ 45 ∧ b64c d ≠ 95 := by
  have : ∀ n : Fin 64, B64L.getD n.val 0 ≠ 45 ∧ B64L.getD n.val 0 ≠ 95 := by decide
  exact this ⟨d.toNat, by omega⟩
theorem encU_back {ks : List Int} (h : Oct ks) : (encU ks).map trD = enc64 ks := by
  unfold encU
  rw [List.map_map]
  conv => rhs; rw [← List.map_id (enc64 ks)]
  apply List.map_congr_left
  intro n hn
  simp only [Function.comp, id]
  unfold enc64 at hn
  rcases List.mem_append.mp hn with hn | hn
  · obtain ⟨d, hd, rfl⟩ := List.mem_map.mp hn
    have h2 := dig64_in h d hd
    have h3 := b64c_ne h2.1 h2.2
    exact trD_trE h3.1 h3.2
  · rw [List.eq_of_mem_replicate hn]; rfl
/-! base 16 read -/
noncomputable def hexv (c : Int) : Int := if 48 ≤ c ∧ c ≤ 57 then c - 48 else if 65 ≤ c ∧ c ≤ 70 then c - 55 else if 97 ≤ c ∧ c ≤ 102 then c - 87 else 16
theorem hexv_hexC {d : Int} (h0 : 0 ≤ d) (h1 : d < 16) : hexv (hexC d) = d := by unfold hexC hexv; (repeat' split) <;> omega
theorem enc16_getD (ks : List Int) : ∀ (j : Nat) (o : Int), ks[j]? = some o → (enc16 ks).getD (2 * j) 0 = hexC (o / 16) ∧ (enc16 ks).getD (2 * j + 1) 0 = hexC (o % 16) := by
  induction ks with
  | nil => intro j o h; simp at h
  | cons c r ih =>
    intro j o h
    have e : enc16 (c :: r) = hexC (c / 16) :: hexC (c % 16) :: enc16 r := by unfold enc16; rw [List.flatMap_cons]; rfl
    rw [e]
    cases j with
    | zero => simp at h; subst h; exact ⟨rfl, rfl⟩
    | succ j =>
      have := ih j o (by simpa using h)
      rw [show 2 * (j + 1) = (2 * j) + 1 + 1 by omega]
      exact this
end

section
/-! texts put together -/
theorem glued_sz (cs : List Int) : Txt.join (Str.ofString "") (cs.map fun c => sz [c]) = sz cs := by
  unfold Txt.join Builtin.Str.glued
  have H : ∀ (r : List Int) (acc : Array Nat), (r.map fun c => sz [c]).foldl (fun acc p => acc ++ (Str.ofString "").cps ++ p.cps) acc = acc ++ (r.map Int.toNat).toArray := by
    intro r
    induction r with
    | nil => intro acc; simp
    | cons c r ih =>
      intro acc
      rw [List.map_cons, List.foldl_cons, ih]
      have e : (Str.ofString "").cps = #[] := by decide +kernel
      rw [e]
      simp [sz, ← List.append_toArray]
  cases cs with
  | nil => rfl
  | cons c r =>
    show Str.mk _ = _
    simp only [List.map_cons, List.drop_succ_cons, List.drop_zero, List.headD_cons]
    rw [H]
    simp [sz, ← List.append_toArray]
theorem item_sz {fc : List Int} {i : Int} (h0 : 0 ≤ i) (h1 : i < fc.length) : Txt.item (sz fc) i = sz [fc.getD i.toNat 0] := by
  unfold Txt.item Txt.charAt
  rw [show (sz fc).length = fc.length from length_sz fc]
  have e : seqIndex? i fc.length = some i.toNat := by
    have hn : ¬ i < 0 := by omega
    simp [seqIndex?, hn, h0, h1]
  rw [e]
  simp only [Option.bind_some]
  have hlt : i.toNat < fc.length := by omega
  have e2 : (sz fc).cps[i.toNat]? = some (fc.getD i.toNat 0).toNat := by
    unfold sz
    simp [hlt]
  rw [e2]
  rfl
/-- the codes of a sign's face -/
noncomputable def faceOf (k : Int) : List Int := if k = 0 then B64L else if k = 1 then B64L.map trE else [48, 49, 50, 51, 52, 53, 54, 55, 56, 57, 65, 66, 67, 68, 69, 70]
theorem face_64 (k : Int) (h0 : 0 ≤ k) (h2 : k < 2) : Str.ofString "ABCDEFGHIJKLMNOPQRSTUVWXYZabcdefghijklmnopqrstuvwxyz0123456789" ++ [Str.ofString "+/", Str.ofString "-_"].getD k.toNat Str.empty = sz (faceOf k) := by
  obtain rfl | rfl : k = 0 ∨ k = 1 := by omega
  · decide +kernel
  · decide +kernel
theorem face_16 : Str.ofString "0123456789ABCDEF" = sz (faceOf 2) := by decide +kernel
theorem faceOf_len (k : Int) (h0 : 0 ≤ k) (h2 : k < 2) : (faceOf k).length = 64 := by
  obtain rfl | rfl : k = 0 ∨ k = 1 := by omega
  · decide
  · decide
noncomputable def fcW (k d : Int) : Int := (faceOf k).getD d.toNat 0
noncomputable def encW (k : Int) (ks : List Int) : List Int := if k = 0 then enc64 ks else if k = 1 then encU ks else enc16 ks
theorem fcW_0 (d : Int) : fcW 0 d = b64c d := rfl
theorem fcW_1 {d : Int} (h0 : 0 ≤ d) (h1 : d < 64) : fcW 1 d = trE (b64c d) := by
  have : ∀ n : Fin 64, (faceOf 1).getD n.val 0 = trE (B64L.getD n.val 0) := by decide
  exact this ⟨d.toNat, by omega⟩
theorem fcW_2 {d : Int} (h0 : 0 ≤ d) (h1 : d < 16) : fcW 2 d = hexC d := by
  have : ∀ n : Fin 16, (faceOf 2).getD n.val 0 = hexC (n.val : Int) := by decide
  have h := this ⟨d.toNat, by omega⟩
  have e : ((⟨d.toNat, by omega⟩ : Fin 16).val : Int) = d := by show ((d.toNat : Nat) : Int) = d; omega
  rw [e] at h
  exact h
/-- the law's own signs of base 64 -/
theorem signs_64 {k : Int} {ks : List Int} (h0 : 0 ≤ k) (h2 : k < 2) (hk : Oct ks) : (dig64 ks).map (fcW k) ++ List.replicate (pad64 ks) 61 = encW k ks := by
  obtain rfl | rfl : k = 0 ∨ k = 1 := by omega
  · rfl
  · show _ = encU ks
    unfold encU enc64
    rw [List.map_append, List.map_map, List.map_replicate]
    congr 1
    apply List.map_congr_left
    intro d hd
    have := dig64_in hk d hd
    exact fcW_1 this.1 this.2

theorem fd_0 (x : Int) : x.fdiv (2 ^ (4 + 8 - 6 - 6 : Int).toNat) = x := by rw [Int.fdiv_eq_ediv_of_nonneg _ (by decide)]; show x / 1 = x; omega
theorem fm_0 (x : Int) : x.fmod (2 ^ (4 + 8 - 6 - 6 : Int).toNat) = 0 := by rw [Int.fmod_eq_emod_of_nonneg _ (by decide)]; show x % 1 = 0; omega
theorem fd_2 (x : Int) : x.fdiv (2 ^ (0 + 8 - 6 : Int).toNat) = x / 4 := by rw [Int.fdiv_eq_ediv_of_nonneg _ (by decide)]; rfl
theorem fm_2 (x : Int) : x.fmod (2 ^ (0 + 8 - 6 : Int).toNat) = x % 4 := by rw [Int.fmod_eq_emod_of_nonneg _ (by decide)]; rfl
theorem fd_4 (x : Int) : x.fdiv (2 ^ (2 + 8 - 6 : Int).toNat) = x / 16 := by rw [Int.fdiv_eq_ediv_of_nonneg _ (by decide)]; rfl
theorem fm_4 (x : Int) : x.fmod (2 ^ (2 + 8 - 6 : Int).toNat) = x % 16 := by rw [Int.fmod_eq_emod_of_nonneg _ (by decide)]; rfl
theorem fd_6 (x : Int) : x.fdiv (2 ^ (4 + 8 - 6 : Int).toNat) = x / 64 := by rw [Int.fdiv_eq_ediv_of_nonneg _ (by decide)]; rfl
theorem fm_6 (x : Int) : x.fmod (2 ^ (4 + 8 - 6 : Int).toNat) = x % 64 := by rw [Int.fmod_eq_emod_of_nonneg _ (by decide)]; rfl
theorem dig_len {ks : List Int} (h : Oct ks) : ((dig64 ks).length + pad64 ks) % 4 = 0 ∧ pad64 ks ≤ 2 ∧ (dig64 ks).length ≤ 2 * ks.length + 2 := by
  have h8 := f64 ks h
  have hp := h8.ph
  have hl := h8.ln
  unfold dig64 pad64
  dsimp only
  (repeat' split) <;> (try simp only [List.length_append, List.length_cons, List.length_nil]) <;> omega
theorem dig_0 {ks : List Int} (h : (fold64 ks).2.1 = 0) : dig64 ks = (fold64 ks).1 := by unfold dig64; simp [h]
theorem dig_1 {ks : List Int} (h : (fold64 ks).2.1 = 1) : dig64 ks = (fold64 ks).1 ++ [(fold64 ks).2.2 * 16] := by unfold dig64; simp [h]
theorem dig_2 {ks : List Int} (h : (fold64 ks).2.1 = 2) : dig64 ks = (fold64 ks).1 ++ [(fold64 ks).2.2 * 4] := by unfold dig64; simp [h]
theorem map_sz_rep (n : Nat) : (List.replicate n (61 : Int)).map (fun x => sz [x]) = List.replicate n (sz [61]) := by rw [List.map_replicate]
theorem sumlen1 (cs : List Int) : ((cs.map fun x => sz [x]).map (·.length)).sum = cs.length := by
  induction cs with
  | nil => rfl
  | cons c r ih => simp only [List.map_cons, List.sum_cons, List.length_cons, ih, length_sz, List.length_nil]; omega
end

section
/-! the loops of _law_signs for base 64, in plain lists -/
theorem s_0 {o : Int} (h0 : 0 ≤ o) (h1 : o < 256) : 0 ≤ (0 * 256 + o) / 4 ∧ (0 * 256 + o) / 4 < 64 ∧ (0 * 256 + o) / 4 = o / 4 ∧ (0 * 256 + o) % 4 = o % 4 := by
  rw [Int.zero_mul, Int.zero_add]
  exact ⟨Int.ediv_nonneg h0 (by decide), by omega, rfl, rfl⟩
theorem s_1 {o x : Int} (h0 : 0 ≤ o) (h1 : o < 256) (h : 0 ≤ x) (h' : x < 4) : 0 ≤ (x * 256 + o) / 16 ∧ (x * 256 + o) / 16 < 64 ∧ (x * 256 + o) / 16 = x * 16 + o / 16 ∧ (x * 256 + o) % 16 = o % 16 := by
  have e : (x * 256 + o) / 16 = x * 16 + o / 16 := by omega
  rw [e]
  exact ⟨by omega, by omega, rfl, by omega⟩
theorem s_2 {o x : Int} (h0 : 0 ≤ o) (h1 : o < 256) (h : 0 ≤ x) (h' : x < 16) : 0 ≤ (x * 256 + o) / 64 ∧ (x * 256 + o) / 64 < 64 ∧ (x * 256 + o) / 64 = x * 4 + o / 64 ∧ (x * 256 + o) % 64 = o % 64 := by
  have e : (x * 256 + o) / 64 = x * 4 + o / 64 := by omega
  rw [e]
  exact ⟨by omega, by omega, rfl, by omega⟩
theorem lt_264 {x k : Int} (h0 : 0 ≤ x) (h : x < k) (hk : k ≤ 16) : -2 ^ 64 < x ∧ x < 2 ^ 64 := by omega
theorem f_len2 {a n : Nat} {q : Int} (h : (a : Int) * 3 + q = (n : Int) * 4) (h0 : 0 ≤ q) (hn : n ≤ 5000) : a ≤ 20000 := by omega
structure SInv (k : Int) (pre : List Int) (ss : List Str) (hl bt : Int) : Prop where
  hss : ss = ((fold64 pre).1.map (fcW k)).map (fun x => sz [x])
  hhl : hl = (fold64 pre).2.2
  hbt : bt = 2 * (fold64 pre).2.1
theorem SInv.start {k : Int} : SInv k [] [] 0 0 := ⟨rfl, rfl, rfl⟩
theorem SInv.len {k : Int} {pre : List Int} {ss : List Str} {hl bt : Int} (P : SInv k pre ss hl bt) (hk : Oct pre) (hb : pre.length ≤ 5000) : ss.length ≤ 20000 := by
  rw [P.hss, List.length_map, List.length_map]
  have f8 := f64 pre hk
  refine f_len2 f8.ln ?_ hb
  rcases f8.ph with ⟨h, _⟩ | ⟨h, _⟩ | ⟨h, _⟩ <;> rw [h] <;> decide
inductive SWay (k : Int) (pre : List Int) (ss : List Str) (hl o : Int) : Int → Prop
  | w0 (b : -2 ^ 64 < hl ∧ hl < 2 ^ 64) (i0 : 0 ≤ (hl * 256 + o).fdiv (2 ^ Int.toNat (0 + 8 - 6))) (i1 : (hl * 256 + o).fdiv (2 ^ Int.toNat (0 + 8 - 6)) < (faceOf k).length)
      (e : SInv k (pre ++ [o]) (ss ++ [sz [(faceOf k).getD ((hl * 256 + o).fdiv (2 ^ Int.toNat (0 + 8 - 6))).toNat 0]]) ((hl * 256 + o).fmod (2 ^ Int.toNat (0 + 8 - 6))) (0 + 8 - 6)) : SWay k pre ss hl o 0
  | w1 (b : -2 ^ 64 < hl ∧ hl < 2 ^ 64) (i0 : 0 ≤ (hl * 256 + o).fdiv (2 ^ Int.toNat (2 + 8 - 6))) (i1 : (hl * 256 + o).fdiv (2 ^ Int.toNat (2 + 8 - 6)) < (faceOf k).length)
      (e : SInv k (pre ++ [o]) (ss ++ [sz [(faceOf k).getD ((hl * 256 + o).fdiv (2 ^ Int.toNat (2 + 8 - 6))).toNat 0]]) ((hl * 256 + o).fmod (2 ^ Int.toNat (2 + 8 - 6))) (2 + 8 - 6)) : SWay k pre ss hl o 2
  | w2 (b : -2 ^ 64 < hl ∧ hl < 2 ^ 64) (i0 : 0 ≤ (hl * 256 + o).fdiv (2 ^ Int.toNat (4 + 8 - 6))) (i1 : (hl * 256 + o).fdiv (2 ^ Int.toNat (4 + 8 - 6)) < (faceOf k).length)
      (i2 : 0 ≤ ((hl * 256 + o).fmod (2 ^ Int.toNat (4 + 8 - 6))).fdiv (2 ^ Int.toNat (4 + 8 - 6 - 6))) (i3 : ((hl * 256 + o).fmod (2 ^ Int.toNat (4 + 8 - 6))).fdiv (2 ^ Int.toNat (4 + 8 - 6 - 6)) < (faceOf k).length)
      (e : SInv k (pre ++ [o]) (ss ++ [sz [(faceOf k).getD ((hl * 256 + o).fdiv (2 ^ Int.toNat (4 + 8 - 6))).toNat 0]] ++ [sz [(faceOf k).getD (((hl * 256 + o).fmod (2 ^ Int.toNat (4 + 8 - 6))).fdiv (2 ^ Int.toNat (4 + 8 - 6 - 6))).toNat 0]])
        (((hl * 256 + o).fmod (2 ^ Int.toNat (4 + 8 - 6))).fmod (2 ^ Int.toNat (4 + 8 - 6 - 6))) (4 + 8 - 6 - 6)) : SWay k pre ss hl o 4
theorem lt_face {x k : Int} (hf : (faceOf k).length = 64) (h : x < 64) : x < (faceOf k).length := by rw [hf]; exact h
theorem SInv.way {k : Int} {pre : List Int} {ss : List Str} {hl bt o : Int} (P : SInv k pre ss hl bt) (hk : Oct pre) (hf : (faceOf k).length = 64) (h0 : 0 ≤ o) (h1 : o < 256) : SWay k pre ss hl o bt := by
  obtain ⟨hss, hhl, hbt⟩ := P
  have hph := (f64 pre hk).ph
  rw [← hhl] at hph
  rcases hph with ⟨hp, hz⟩ | ⟨hp, hz, hz2⟩ | ⟨hp, hz, hz2⟩ <;> rw [hp] at hbt
  · obtain rfl : bt = 0 := hbt
    rw [hz]
    obtain ⟨a, b, c, d⟩ := s_0 h0 h1
    refine .w0 (by decide) (by rw [fd_2]; exact a) (by rw [fd_2]; exact lt_face hf b) ?_
    rw [fd_2, fm_2, c, d]
    refine ⟨?_, ?_, ?_⟩ <;> rw [step_0 hp]
    · rw [hss, List.map_append, List.map_append]; rfl
    · rfl
  · obtain rfl : bt = 2 := hbt
    obtain ⟨a, b, c, d⟩ := s_1 h0 h1 hz hz2
    refine .w1 (lt_264 hz hz2 (by decide)) (by rw [fd_4]; exact a) (by rw [fd_4]; exact lt_face hf b) ?_
    rw [fd_4, fm_4, c, d, hhl]
    refine ⟨?_, ?_, ?_⟩ <;> rw [step_1 hp]
    · rw [hss, List.map_append, List.map_append]; rfl
    · rfl
  · obtain rfl : bt = 4 := hbt
    obtain ⟨a, b, c, d⟩ := s_2 h0 h1 hz hz2
    have r0 : 0 ≤ o % 64 := Int.emod_nonneg _ (by decide)
    have r1 : o % 64 < 64 := Int.emod_lt_of_pos _ (by decide)
    refine .w2 (lt_264 hz hz2 (by decide)) (by rw [fd_6]; exact a) (by rw [fd_6]; exact lt_face hf b) (by rw [fm_6, fd_0, d]; exact r0) (by rw [fm_6, fd_0, d]; exact lt_face hf r1) ?_
    rw [fd_6, fm_6, fd_0, fm_0, c, d, hhl]
    refine ⟨?_, ?_, ?_⟩ <;> rw [step_2 hp]
    · rw [hss, List.map_append, List.map_append, List.append_assoc]; rfl
    · rfl
/-- behind the loop: the last digit -/
inductive SFin (k : Int) (ks : List Int) (ss : List Str) (hl : Int) : Int → Prop
  | f0 (e : ss = ((dig64 ks).map (fcW k)).map (fun x => sz [x])) : SFin k ks ss hl 0
  | f1 (b : -2 ^ 64 < hl ∧ hl < 2 ^ 64) (i0 : 0 ≤ hl * 2 ^ Int.toNat (6 - 2)) (i1 : hl * 2 ^ Int.toNat (6 - 2) < (faceOf k).length) (e : ss ++ [sz [(faceOf k).getD (hl * 2 ^ Int.toNat (6 - 2)).toNat 0]] = ((dig64 ks).map (fcW k)).map (fun x => sz [x])) : SFin k ks ss hl 2
  | f2 (b : -2 ^ 64 < hl ∧ hl < 2 ^ 64) (i0 : 0 ≤ hl * 2 ^ Int.toNat (6 - 4)) (i1 : hl * 2 ^ Int.toNat (6 - 4) < (faceOf k).length) (e : ss ++ [sz [(faceOf k).getD (hl * 2 ^ Int.toNat (6 - 4)).toNat 0]] = ((dig64 ks).map (fcW k)).map (fun x => sz [x])) : SFin k ks ss hl 4
theorem sh_16 {x : Int} (h0 : 0 ≤ x) (h : x < 4) : 0 ≤ x * 16 ∧ x * 16 < 64 := by omega
theorem sh_4' {x : Int} (h0 : 0 ≤ x) (h : x < 16) : 0 ≤ x * 4 ∧ x * 4 < 64 := by omega
theorem SInv.fin {k : Int} {ks : List Int} {ss : List Str} {hl bt : Int} (P : SInv k ks ss hl bt) (hk : Oct ks) (hf : (faceOf k).length = 64) : SFin k ks ss hl bt := by
  obtain ⟨hss, hhl, hbt⟩ := P
  have hph := (f64 ks hk).ph
  rw [← hhl] at hph
  rcases hph with ⟨hp, hz⟩ | ⟨hp, hz, hz2⟩ | ⟨hp, hz, hz2⟩ <;> rw [hp] at hbt
  · obtain rfl : bt = 0 := hbt
    exact .f0 (by rw [dig_0 hp]; exact hss)
  · obtain rfl : bt = 2 := hbt
    obtain ⟨a, b⟩ := sh_16 hz hz2
    refine .f1 (lt_264 hz hz2 (by decide)) a (lt_face hf b) ?_
    rw [dig_1 hp, hss, hhl, List.map_append, List.map_append]; rfl
  · obtain rfl : bt = 4 := hbt
    obtain ⟨a, b⟩ := sh_4' hz hz2
    refine .f2 (lt_264 hz hz2 (by decide)) a (lt_face hf b) ?_
    rw [dig_2 hp, hss, hhl, List.map_append, List.map_append]; rfl
/-- the pads -/
structure PInv (k : Int) (ks : List Int) (j : Nat) (ss : List Str) : Prop where
  hj : j ≤ pad64 ks
  hss : ss = ((dig64 ks).map (fcW k) ++ List.replicate j 61).map (fun x => sz [x])
theorem PInv.start {k : Int} {ks : List Int} : PInv k ks 0 (((dig64 ks).map (fcW k)).map (fun x => sz [x])) := ⟨Nat.zero_le _, by rw [List.replicate_zero, List.append_nil]⟩
inductive PWay (k : Int) (ks : List Int) (ss : List Str) : Nat → Prop
  | more (j : Nat) (hm : 0 < ((ss.length : Nat) : Int).fmod 4) (e : PInv k ks (j + 1) (ss ++ [Str.ofString "="])) (hlt : pad64 ks - (j + 1) < pad64 ks - j) : PWay k ks ss j
  | last (hm : ((ss.length : Nat) : Int).fmod 4 = 0) (hs : (ss.map (·.length)).sum + ss.length * 64 ≤ 16777216) (e : Txt.join (Str.ofString "") ss = sz ((dig64 ks).map (fcW k) ++ List.replicate (pad64 ks) 61)) : PWay k ks ss (pad64 ks)
theorem PInv.len {k : Int} {ks : List Int} {j : Nat} {ss : List Str} (P : PInv k ks j ss) : ss.length = (dig64 ks).length + j := by rw [P.hss, List.length_map, List.length_append, List.length_map, List.length_replicate]
theorem p_len {d j p n : Nat} (h : d ≤ 2 * n + 2) (hp : p ≤ 2) (hj : j ≤ p) (hn : n ≤ 5000) : d + j ≤ 20000 := by omega
theorem PInv.le {k : Int} {ks : List Int} {j : Nat} {ss : List Str} (P : PInv k ks j ss) (hk : Oct ks) (hb : ks.length ≤ 5000) : ss.length ≤ 20000 := by
  rw [P.len]
  exact p_len (dig_len hk).2.2 (dig_len hk).2.1 P.hj hb
theorem p_mod {d p j : Nat} (h : (d + p) % 4 = 0) (hp : p ≤ 2) (hj : j < p) : 0 < (((d + j : Nat) : Int)) % 4 := by omega
theorem p_mod0 {d p : Nat} (h : (d + p) % 4 = 0) : (((d + p : Nat) : Int)) % 4 = 0 := by omega
theorem p_sum {n : Nat} (h : n ≤ 20000) : n + n * 64 ≤ 16777216 := by omega
theorem PInv.way {k : Int} {ks : List Int} {j : Nat} {ss : List Str} (P : PInv k ks j ss) (hk : Oct ks) (hb : ks.length ≤ 5000) : PWay k ks ss j := by
  have hd := dig_len hk
  have hl := P.len
  have hle := P.le hk hb
  rcases Nat.lt_or_eq_of_le P.hj with h | rfl
  · refine .more j (by rw [hl, Int.fmod_eq_emod_of_nonneg _ (by decide)]; exact p_mod hd.1 hd.2.1 h) ⟨h, ?_⟩ (Nat.sub_lt_sub_left h (Nat.lt_succ_self _))
    rw [P.hss, List.replicate_succ', show Str.ofString "=" = sz [61] by decide +kernel, ← List.append_assoc]
    exact (List.map_append (l₁ := (dig64 ks).map (fcW k) ++ List.replicate j 61) (l₂ := [61])).symm
  · refine .last (by rw [hl, Int.fmod_eq_emod_of_nonneg _ (by decide)]; exact p_mod0 hd.1) ?_ ?_
    · rw [show (ss.map (·.length)).sum = ss.length by rw [P.hss, sumlen1, List.length_map]]
      exact p_sum hle
    · rw [P.hss, glued_sz]
end

section
/-! facts of the built-in methods of patterns and matches (printed by re_facts.py) -/
theorem plain_pattern : PlainAttrs "re.Pattern" :=
  ⟨⟨"object.__getattribute__", by rw [typeLookup_type, builtinLookup_eq_fast]; kernel_rfl, by decide +kernel⟩, by rw [typeLookup_type, builtinLookup_eq_fast]; kernel_rfl⟩
theorem owner_pattern : Manifest.owners.lookup (String.ofList ['n', 'r', 'e', 't', 't', 'a', 'P', '.', 'e', 'r'].reverse) = some Manifest.sig_re_Pattern := by kernel_rfl
theorem plain_match : PlainAttrs "re.Match" :=
  ⟨⟨"object.__getattribute__", by rw [typeLookup_type, builtinLookup_eq_fast]; kernel_rfl, by decide +kernel⟩, by rw [typeLookup_type, builtinLookup_eq_fast]; kernel_rfl⟩
theorem owner_match : Manifest.owners.lookup (String.ofList ['h', 'c', 't', 'a', 'M', '.', 'e', 'r'].reverse) = some Manifest.sig_re_Match := by kernel_rfl
theorem slot_search : Slot "re.Pattern" "search" "re.Pattern.search" :=
  .of (owner := "re.Pattern") (n := "search") (by rw [typeLookup_type, builtinLookup_eq_fast]; kernel_rfl) (by decide +kernel) (by decide +kernel) (by decide +kernel)
    (by first | exact .inl (by decide +kernel) | exact .inr (by decide +kernel)) (by rw [isSubtype_type]; kernel_rfl)
theorem type_search : typeOf (.builtin "re.Pattern.search") = pure (.type "method_descriptor") := by show builtinType _ = _; rw [builtinType_eq_fast]; kernel_rfl
theorem entry_search : entryFor table "re.Pattern.search" = some Builtin.«re.Pattern.search» := entryFor_of_tree (by kernel_rfl)
theorem args_search (a b : Value) : argsOk "re.Pattern.search" ⟨[a, b], []⟩ := by
  unfold argsOk; rw [signature?_of (id := "re.Pattern.search") (n := "search".toList.reverse) (o := ['n', 'r', 'e', 't', 't', 'a', 'P', '.', 'e', 'r']) (by kernel_rfl) owner_pattern]; kernel_rfl
theorem slot_fullmatch : Slot "re.Pattern" "fullmatch" "re.Pattern.fullmatch" :=
  .of (owner := "re.Pattern") (n := "fullmatch") (by rw [typeLookup_type, builtinLookup_eq_fast]; kernel_rfl) (by decide +kernel) (by decide +kernel) (by decide +kernel)
    (by first | exact .inl (by decide +kernel) | exact .inr (by decide +kernel)) (by rw [isSubtype_type]; kernel_rfl)
theorem type_fullmatch : typeOf (.builtin "re.Pattern.fullmatch") = pure (.type "method_descriptor") := by show builtinType _ = _; rw [builtinType_eq_fast]; kernel_rfl
theorem entry_fullmatch : entryFor table "re.Pattern.fullmatch" = some Builtin.«re.Pattern.fullmatch» := entryFor_of_tree (by kernel_rfl)
theorem args_fullmatch (a b : Value) : argsOk "re.Pattern.fullmatch" ⟨[a, b], []⟩ := by
  unfold argsOk; rw [signature?_of (id := "re.Pattern.fullmatch") (n := "fullmatch".toList.reverse) (o := ['n', 'r', 'e', 't', 't', 'a', 'P', '.', 'e', 'r']) (by kernel_rfl) owner_pattern]; kernel_rfl
theorem slot_sub : Slot "re.Pattern" "sub" "re.Pattern.sub" :=
  .of (owner := "re.Pattern") (n := "sub") (by rw [typeLookup_type, builtinLookup_eq_fast]; kernel_rfl) (by decide +kernel) (by decide +kernel) (by decide +kernel)
    (by first | exact .inl (by decide +kernel) | exact .inr (by decide +kernel)) (by rw [isSubtype_type]; kernel_rfl)
theorem type_sub : typeOf (.builtin "re.Pattern.sub") = pure (.type "method_descriptor") := by show builtinType _ = _; rw [builtinType_eq_fast]; kernel_rfl
theorem entry_sub : entryFor table "re.Pattern.sub" = some Builtin.«re.Pattern.sub» := entryFor_of_tree (by kernel_rfl)
theorem args_sub (a b c : Value) : argsOk "re.Pattern.sub" ⟨[a, b, c], []⟩ := by
  unfold argsOk; rw [signature?_of (id := "re.Pattern.sub") (n := "sub".toList.reverse) (o := ['n', 'r', 'e', 't', 't', 'a', 'P', '.', 'e', 'r']) (by kernel_rfl) owner_pattern]; kernel_rfl
theorem slot_subn : Slot "re.Pattern" "subn" "re.Pattern.subn" :=
  .of (owner := "re.Pattern") (n := "subn") (by rw [typeLookup_type, builtinLookup_eq_fast]; kernel_rfl) (by decide +kernel) (by decide +kernel) (by decide +kernel)
    (by first | exact .inl (by decide +kernel) | exact .inr (by decide +kernel)) (by rw [isSubtype_type]; kernel_rfl)
theorem type_subn : typeOf (.builtin "re.Pattern.subn") = pure (.type "method_descriptor") := by show builtinType _ = _; rw [builtinType_eq_fast]; kernel_rfl
theorem entry_subn : entryFor table "re.Pattern.subn" = some Builtin.«re.Pattern.subn» := entryFor_of_tree (by kernel_rfl)
theorem args_subn (a b c : Value) : argsOk "re.Pattern.subn" ⟨[a, b, c], []⟩ := by
  unfold argsOk; rw [signature?_of (id := "re.Pattern.subn") (n := "subn".toList.reverse) (o := ['n', 'r', 'e', 't', 't', 'a', 'P', '.', 'e', 'r']) (by kernel_rfl) owner_pattern]; kernel_rfl
theorem slot_group : Slot "re.Match" "group" "re.Match.group" :=
  .of (owner := "re.Match") (n := "group") (by rw [typeLookup_type, builtinLookup_eq_fast]; kernel_rfl) (by decide +kernel) (by decide +kernel) (by decide +kernel)
    (by first | exact .inl (by decide +kernel) | exact .inr (by decide +kernel)) (by rw [isSubtype_type]; kernel_rfl)
theorem type_group : typeOf (.builtin "re.Match.group") = pure (.type "method_descriptor") := by show builtinType _ = _; rw [builtinType_eq_fast]; kernel_rfl
theorem entry_group : entryFor table "re.Match.group" = some Builtin.«re.Match.group» := entryFor_of_tree (by kernel_rfl)
theorem args_group (a b : Value) : argsOk "re.Match.group" ⟨[a, b], []⟩ := by
  unfold argsOk; rw [signature?_of (id := "re.Match.group") (n := "group".toList.reverse) (o := ['h', 'c', 't', 'a', 'M', '.', 'e', 'r']) (by kernel_rfl) owner_match]; kernel_rfl
theorem slot_span : Slot "re.Match" "span" "re.Match.span" :=
  .of (owner := "re.Match") (n := "span") (by rw [typeLookup_type, builtinLookup_eq_fast]; kernel_rfl) (by decide +kernel) (by decide +kernel) (by decide +kernel)
    (by first | exact .inl (by decide +kernel) | exact .inr (by decide +kernel)) (by rw [isSubtype_type]; kernel_rfl)
theorem type_span : typeOf (.builtin "re.Match.span") = pure (.type "method_descriptor") := by show builtinType _ = _; rw [builtinType_eq_fast]; kernel_rfl
theorem entry_span : entryFor table "re.Match.span" = some Builtin.«re.Match.span» := entryFor_of_tree (by kernel_rfl)
theorem args_span (a b : Value) : argsOk "re.Match.span" ⟨[a, b], []⟩ := by
  unfold argsOk; rw [signature?_of (id := "re.Match.span") (n := "span".toList.reverse) (o := ['h', 'c', 't', 'a', 'M', '.', 'e', 'r']) (by kernel_rfl) owner_match]; kernel_rfl
end

section
open PySem.Sre in
theorem runFor_add (a : Nat) : ∀ (b : Nat) (m : Sre.M), Sre.M.runFor (a + b) m = Sre.M.runFor b (Sre.M.runFor a m) := by
  induction a with
  | zero => intro b m; rw [Nat.zero_add]; rfl
  | succ a ih =>
    intro b m
    rw [show a + 1 + b = (a + b) + 1 by omega]
    show (if m.outcome.isSome = true then m else Sre.M.runFor (a + b) m.step) = Sre.M.runFor b (if m.outcome.isSome = true then m else Sre.M.runFor a m.step)
    by_cases h : m.outcome.isSome = true
    · rw [if_pos h, if_pos h]
      cases b with
      | zero => rfl
      | succ b => show m = (if m.outcome.isSome = true then m else _); rw [if_pos h]
    · rw [if_neg h, if_neg h]; exact ih b _
theorem runFor_stable (b : Nat) {m : Sre.M} (h : m.outcome.isSome = true) : Sre.M.runFor b m = m := by
  cases b with
  | zero => rfl
  | succ b => show (if m.outcome.isSome = true then m else _) = m; rw [if_pos h]
/-- from m to m' in at most k steps, whatever was seen -/
noncomputable def Goes (m m' : Sre.M) (k : Nat) : Prop := ∀ sn, ∃ n, n ≤ k ∧ ∃ sn', Sre.M.runFor n { m with seen := sn } = { m' with seen := sn' }
theorem Goes.refl (m : Sre.M) : Goes m m 0 := fun sn => ⟨0, Nat.le_refl _, sn, rfl⟩
theorem Goes.trans {a b c : Sre.M} {j k : Nat} (h1 : Goes a b j) (h2 : Goes b c k) : Goes a c (j + k) := by
  intro sn
  obtain ⟨n, hn, sn', e⟩ := h1 sn
  obtain ⟨n2, hn2, sn2, e2⟩ := h2 sn'
  exact ⟨n + n2, by omega, sn2, by rw [runFor_add, e, e2]⟩
theorem Goes.mono {a b : Sre.M} {j k : Nat} (h : Goes a b j) (hk : j ≤ k) : Goes a b k := fun sn => let ⟨n, hn, r⟩ := h sn; ⟨n, Nat.le_trans hn hk, r⟩
theorem Goes.one {m m' : Sre.M} (ho : m.outcome = none) (h : ∀ sn, ∃ sn', Sre.M.step { m with seen := sn } = { m' with seen := sn' }) : Goes m m' 1 := by
  intro sn
  obtain ⟨sn', e⟩ := h sn
  refine ⟨1, Nat.le_refl _, sn', ?_⟩
  have hn : ¬ ({ m with seen := sn } : Sre.M).outcome.isSome = true := by show ¬ m.outcome.isSome = true; rw [ho]; decide
  show (if ({ m with seen := sn } : Sre.M).outcome.isSome = true then _ else Sre.M.runFor 0 _) = _
  rw [if_neg hn]
  exact e
theorem Goes.step {a b c : Sre.M} {k : Nat} (ho : a.outcome = none) (h : ∀ sn, ∃ sn', Sre.M.step { a with seen := sn } = { b with seen := sn' }) (h2 : Goes b c k) : Goes a c (k + 1) := by
  have := (Goes.one ho h).trans h2
  rwa [Nat.add_comm] at this

section
variable {M : Model} {A : Around} {E : Value → Shared → Prop} {s : Shared}
theorem wp_drive {Q : Sre.M → Shared → Prop} : ∀ (turns n : Nat) (m : Sre.M), (Sre.M.runFor n m).outcome.isSome = true → n < 4 * turns → Q (Sre.M.runFor n m) s → wpAny M A (Builtin.Re.reDrive turns m) Q E s
  | 0, n, m, _, hn, _ => by omega
  | turns + 1, n, m, ho, hn, q => by
    unfold Builtin.Re.reDrive
    rw [show Builtin.Re.reTurnSteps = 4 from rfl]
    dsimp only
    by_cases h4 : n ≤ 4
    · have e : Sre.M.runFor 4 m = Sre.M.runFor n m := by
        rw [show (4 : Nat) = n + (4 - n) by omega, runFor_add, runFor_stable _ ho]
      rw [e, if_pos ho]
      exact wpAny_pure q
    · have e : Sre.M.runFor n m = Sre.M.runFor (n - 4) (Sre.M.runFor 4 m) := by rw [← runFor_add]; congr 1; omega
      by_cases h1 : (Sre.M.runFor 4 m).outcome.isSome = true
      · rw [if_pos h1]
        rw [e, runFor_stable _ h1] at q
        exact wpAny_pure q
      · rw [if_neg h1]
        refine wpAny_bind (wpAny_rule ?_)
        exact wp_drive turns (n - 4) _ (by rw [← e]; exact ho) (by omega) (by rw [← e]; exact q)
theorem wp_seen {seen : Sre.Seen} {Q : PUnit → Shared → Prop} (h : Q ⟨⟩ s) : ∀ l : List Nat, wpAny M A (forIn l PUnit.unit fun i (_ : PUnit) => (if seen.has i = true then do rule (Sre.names.getD i ""); pure (ForInStep.yield PUnit.unit) else pure (ForInStep.yield PUnit.unit) : Sem (ForInStep PUnit))) Q E s
  | [] => by rw [List.forIn_nil]; exact wpAny_pure h
  | i :: r => by
    rw [List.forIn_cons]
    refine wpAny_bind ?_
    by_cases hi : seen.has i = true
    · rw [if_pos hi]; exact wpAny_bind (wpAny_rule (wpAny_pure (wp_seen h r)))
    · rw [if_neg hi]; exact wpAny_pure (wp_seen h r)
theorem wp_runToEnd {m m' : Sre.M} {k : Nat} {Q : Option Sre.M → Shared → Prop} (g : Goes m m' k) (hk : k < 2 ^ 60) (hm : m'.outcome = some .matched) (h : ∀ sn, Q (some { m' with seen := sn }) s) : wpAny M A (Builtin.Re.reRunToEnd m) Q E s := by
  obtain ⟨n, hn, sn', e⟩ := g m.seen
  unfold Builtin.Re.reRunToEnd
  have e0 : ({ m with seen := m.seen } : Sre.M) = m := rfl
  rw [e0] at e
  refine wpAny_bind (wp_drive (2 ^ 64) n m (by rw [e]; show (m'.outcome).isSome = true; rw [hm]; rfl) (by omega) ?_)
  rw [e]
  refine wpAny_bind (wp_seen ?_ _)
  show wpAny _ _ (match m'.outcome with | some .matched => _ | some .failed => _ | some (.stuck why) => _ | none => _) _ _ s
  rw [hm]
  have q := h sn'
  rw [hm] at q
  exact wpAny_pure q
theorem wp_runToFail {m m' : Sre.M} {k : Nat} {Q : Option Sre.M → Shared → Prop} (g : Goes m m' k) (hk : k < 2 ^ 60) (hm : m'.outcome = some .failed) (h : Q none s) : wpAny M A (Builtin.Re.reRunToEnd m) Q E s := by
  obtain ⟨n, hn, sn', e⟩ := g m.seen
  unfold Builtin.Re.reRunToEnd
  have e0 : ({ m with seen := m.seen } : Sre.M) = m := rfl
  rw [e0] at e
  refine wpAny_bind (wp_drive (2 ^ 64) n m (by rw [e]; show (m'.outcome).isSome = true; rw [hm]; rfl) (by omega) ?_)
  rw [e]
  refine wpAny_bind (wp_seen ?_ _)
  show wpAny _ _ (match m'.outcome with | some .matched => _ | some .failed => _ | some (.stuck why) => _ | none => _) _ _ s
  rw [hm]
  exact wpAny_pure h
end
end

section
open PySem.Sre
/-- an attempt at place q of an anchored pattern -/
noncomputable def att (code text : Array Nat) (lim ls q : Nat) (out : Bool) (mk : Array (Option Nat)) : Sre.M :=
  { code := code, text := text, lim := lim, start := q, lastStart := ls, pc := 5, pos := q, handed := q, outermost := out, marks := mk,
    frames := [{ wait := .nextStart, pc := 5, pos := q, outermost := out }], weight := 1 }
structure Anch (code : Array Nat) : Prop where
  c0 : code.getD 0 0 = 14
  c2 : code.getD 2 0 = 0
  c5 : code.getD 5 0 = 6
  c6 : code.getD 6 0 = 0
  sz : 5 < code.size
/-- it has come to nothing -/
noncomputable def dead (code text : Array Nat) (lim ls q : Nat) (out : Bool) (mk : Array (Option Nat)) (pc pos hd : Nat) (lm li : Int) (oo ma : Bool) : Sre.M :=
  { att code text lim ls q out mk with pc := pc, pos := pos, handed := hd, lastmark := lm, lastindex := li, outermost := oo, mustAdvance := ma, answer := some false }
noncomputable def Fails (m : Sre.M) (k : Nat) : Prop := ∃ m', m'.outcome = some .failed ∧ Goes m m' k
theorem Fails.from {a b : Sre.M} {j k : Nat} (h : Goes a b j) (f : Fails b k) : Fails a (j + k) := let ⟨m, ho, g⟩ := f; ⟨m, ho, h.trans g⟩
theorem Fails.mono {a : Sre.M} {j k : Nat} (f : Fails a j) (h : j ≤ k) : Fails a k := let ⟨m, ho, g⟩ := f; ⟨m, ho, g.mono h⟩
section
variable {code text : Array Nat} {lim ls q pc pos hd : Nat} {out oo ma : Bool} {mk : Array (Option Nat)} {lm li : Int}
theorem att_no (a : Anch code) (hq : 0 < q) : Goes (att code text lim ls q out mk) (dead code text lim ls q out mk 5 q q (-1) (-1) out false) 1 := by
  refine Goes.one rfl fun sn => ⟨sn.add 6 |>.add 43, ?_⟩
  have e : (q == 0) = false := by simp; omega
  simp [att, dead, Sre.M.step, Sre.M.exec, Sre.M.word, a.c5, a.c6, a.sz, Sre.ops, Sre.M.isAt, Sre.M.say, e]
theorem dead_next (a : Anch code) (hq : q < ls) : Goes (dead code text lim ls q out mk pc pos hd lm li oo ma) (att code text lim ls (q + 1) false mk) 1 := by
  refine Goes.one rfl fun sn => ⟨sn, ?_⟩
  simp [att, dead, Sre.M.step, Sre.M.resume, hq, Sre.M.attemptFrom, Sre.M.hasFirstSet, a.c0, a.c2, Sre.ops, Sre.M.attemptAt, Sre.M.attempt]
theorem dead_last (hq : ¬ q < ls) : Fails (dead code text lim ls q out mk pc pos hd lm li oo ma) 2 := by
  refine ⟨{ code := code, text := text, lim := lim, start := q, lastStart := ls, pc := 5, pos := q, handed := hd, outermost := out, marks := mk, lastmark := lm, lastindex := li, mustAdvance := ma, answer := some false, outcome := some .failed }, rfl, ?_⟩
  refine Goes.step (b := { code := code, text := text, lim := lim, start := q, lastStart := ls, pc := 5, pos := q, handed := hd, outermost := out, marks := mk, lastmark := lm, lastindex := li, mustAdvance := ma, answer := some false }) rfl (fun sn => ⟨sn, ?_⟩) (Goes.one rfl fun sn => ⟨sn, ?_⟩)
  · simp [att, dead, Sre.M.step, Sre.M.resume, hq, Sre.M.say, Sre.M.putBack]
  · simp [Sre.M.step]
theorem anch_fails (a : Anch code) : ∀ (n q : Nat) (out : Bool), 0 < q → q + n = ls → Fails (att code text lim ls q out mk) (2 * n + 3)
  | 0, q, _, hq, e => (Fails.from (att_no a hq) (dead_last (by omega))).mono (by omega)
  | n + 1, q, _, hq, e => by
    have h := anch_fails a n (q + 1) false (by omega) (by omega)
    exact (Fails.from (att_no a hq) (Fails.from (dead_next a (by omega)) h)).mono (by omega)
theorem dead_fails (a : Anch code) : Fails (dead code text lim ls q out mk pc pos hd lm li oo ma) (2 * ls + 4) := by
  by_cases hq : q < ls
  · exact (Fails.from (dead_next a hq) (anch_fails a (ls - (q + 1)) (q + 1) false (by omega) (by omega))).mono (by omega)
  · exact (dead_last hq).mono (by omega)
end
end

section
open PySem.Sre
/-- how many places in a row, from p, of n at most -/
noncomputable def lead (P : Nat → Bool) (text : Array Nat) : Nat → Nat → Nat
  | 0, _ => 0
  | n + 1, p => if P (text.getD p 0) then lead P text n (p + 1) + 1 else 0
theorem run_lead {code text : Array Nat} {i : Nat} {P : Nat → Bool} (hP : ∀ p seen, ∃ seen', Sre.accepts code i (text.getD p 0) seen = .ok (P (text.getD p 0), seen')) :
    ∀ (n p found : Nat) (seen : Sre.Seen), ∃ seen', Sre.run code text i n p found seen = .ok (found + lead P text n p, seen')
  | 0, p, found, seen => ⟨seen, rfl⟩
  | n + 1, p, found, seen => by
    obtain ⟨s1, e1⟩ := hP p seen
    unfold Sre.run lead
    rw [e1]
    cases h : P (text.getD p 0) with
    | false => exact ⟨s1, rfl⟩
    | true =>
      obtain ⟨s2, e2⟩ := run_lead hP n (p + 1) (found + 1) s1
      refine ⟨s2, ?_⟩
      show Sre.run code text i n (p + 1) (found + 1) s1 = _
      rw [e2]
      simp only [if_true]
      rw [show found + 1 + lead P text n (p + 1) = found + (lead P text n (p + 1) + 1) by omega]
noncomputable def cTOKEN : Array Nat := #[14, 4, 0, 1, 4294967295, 6, 0, 24, 9, 0, 4294967295, 13, 4, 8, 12, 0, 1, 17, 0, 24, 19, 1, 4294967295, 13, 14, 21, 9, 0, 671092736, 0, 0, 0, 0, 0, 0, 8, 12, 0, 1, 17, 1, 1]
theorem anch_token : Anch cTOKEN := ⟨by decide, by decide, by decide, by decide, by decide⟩
theorem tok_space (c : Nat) (seen : Sre.Seen) : ∃ seen', Sre.accepts cTOKEN 11 c seen = .ok (Unicode.isSpace c, seen') := by
  have e : Sre.accepts cTOKEN 11 c seen = (if (Unicode.isSpace c != false) = true then .ok (true, (seen.add 8).add 67) else .ok (false, ((seen.add 8).add 67).add 0)) := rfl
  rw [e]
  cases Unicode.isSpace c
  · exact ⟨_, rfl⟩
  · exact ⟨_, rfl⟩
/-- signs that end a token -/
noncomputable def tokStop (c : Nat) : Bool := c == 44 || c == 59 || c == 61 || Unicode.isSpace c
theorem tok_bits : ∀ c : Fin 128, (decide (c.val < 256) && (cTOKEN.getD (26 + (1 + c.val / 32)) 0).testBit (c.val % 32)) = (c.val == 44 || c.val == 59 || c.val == 61) := by decide +kernel
theorem tok_set (c : Nat) (hc : c < 128) (seen : Sre.Seen) : ∃ seen', Sre.accepts cTOKEN 23 c seen = .ok (!tokStop c, seen') := by
  have e : Sre.accepts cTOKEN 23 c seen = (if (decide (c < 256) && (cTOKEN.getD (26 + (1 + c / 32)) 0).testBit (c % 32)) = true then .ok (false, (seen.add 21).add 9) else if (Unicode.isSpace c != false) = true then .ok (false, (((seen.add 21).add 9).add 8).add 67) else .ok (true, ((((seen.add 21).add 9).add 8).add 67).add 0)) := rfl
  rw [e, tok_bits ⟨c, hc⟩]
  unfold tokStop
  cases h1 : (c == 44 || c == 59 || c == 61) <;> cases h2 : Unicode.isSpace c
  · exact ⟨_, rfl⟩
  · exact ⟨_, rfl⟩
  · exact ⟨_, rfl⟩
  · exact ⟨_, rfl⟩
theorem isSpace_128 : ∀ c : Fin 128, Unicode.isSpace c.val = ((9 ≤ c.val && c.val ≤ 13) || (28 ≤ c.val && c.val ≤ 32)) := by decide +kernel
end

section
open PySem.Sre
/-- a state in the first attempt, at place 0 -/
noncomputable def st0 (code text : Array Nat) (lim ls pc pos hd : Nat) (mk : Array (Option Nat)) (lm li : Int) (fs : List Sre.Frame) (wt : Nat) (an : Option Bool) : Sre.M :=
  { code := code, text := text, lim := lim, start := 0, lastStart := ls, pc := pc, pos := pos, handed := hd, marks := mk, lastmark := lm, lastindex := li, frames := fs, weight := wt, answer := an }
noncomputable def fr0 : Sre.Frame := { wait := .nextStart, pc := 5, pos := 0, outermost := true }
noncomputable def frG (pc pos : Nat) (k : Int) (lm li : Int) : Sre.Frame := { wait := .giveBack, pc := pc, pos := pos, outermost := true, count := k, kept := { lastmark := lm, lastindex := li, whole := false, marks := #[] } }
theorem att_st0 (code text : Array Nat) (lim ls : Nat) (mk : Array (Option Nat)) : att code text lim ls 0 true mk = st0 code text lim ls 5 0 0 mk (-1) (-1) [fr0] 1 none := rfl
section
variable {code text : Array Nat} {lim ls pc pos hd wt : Nat} {mk : Array (Option Nat)} {lm li : Int} {fs : List Sre.Frame}
theorem st_at (a : Anch code) : Goes (st0 code text lim ls 5 0 hd mk lm li fs wt none) (st0 code text lim ls 7 0 hd mk lm li fs wt none) 1 := by
  refine Goes.one rfl fun sn => ⟨(sn.add 6).add 43, ?_⟩
  simp [st0, Sre.M.step, Sre.M.exec, Sre.M.word, a.c5, a.c6, a.sz, Sre.ops, Sre.M.isAt]
/-- a run of single signs, greedy -/
theorem st_run {P : Nat → Bool} {least skip k : Nat} (h0 : code.getD pc 0 = 24) (h1 : code.getD (pc + 1) 0 = skip) (h2 : code.getD (pc + 2) 0 = least) (h3 : code.getD (pc + 3) 0 = 4294967295) (hsz : pc < code.size)
    (hP : ∀ p seen, ∃ seen', Sre.accepts code (pc + 4) (text.getD p 0) seen = .ok (P (text.getD p 0), seen')) (hpos : pos ≤ lim) (hlim : lim ≤ 4294967295) (hk : lead P text (lim - pos) pos = k) (hl : least ≤ k) (hl2 : least ≤ lim - pos) (hw : wt < 100) :
    Goes (st0 code text lim ls pc pos hd mk lm li fs wt none) (st0 code text lim ls (pc + 1 + skip) (pos + k) (pos + k) mk lm li (frG pc (pos + k) k lm li :: fs) (wt + 1) none) 1 := by
  refine Goes.one rfl fun sn => ?_
  obtain ⟨s', e⟩ := run_lead hP (lim - pos) pos 0 ((sn.add 24).add (code.getD (pc + 4) 0))
  refine ⟨s', ?_⟩
  have er : ((lim : Int) - (pos : Int)).toNat = lim - pos := by omega
  have em : min 4294967295 (lim - pos) = lim - pos := by omega
  rw [Nat.zero_add, hk] at e
  have hn1 : ¬ (((least : Nat) : Int) > (lim : Int) - (pos : Int)) := by omega
  have hn2 : ¬ k < least := by omega
  simp [st0, Sre.M.step, Sre.M.exec, Sre.M.word, h0, h1, h2, h3, hsz, Sre.ops, er, em, e, hn1, hn2, Sre.M.afterRun, Sre.M.attempt, Sre.M.frame, Sre.M.keep, frG]
  rw [Array.getD_eq_getD_getElem?] at e
  rw [e]
  have hn3 : ¬ 16777216 < wt + 1 := by omega
  simp [hn2, hn3]
/-- marks 0 and 1 -/
theorem st_mark {i : Nat} (h0 : code.getD pc 0 = 17) (h1 : code.getD (pc + 1) 0 = i) (hsz : pc < code.size) (hi : (i : Int) ≤ lm + 1) :
    Goes (st0 code text lim ls pc pos hd mk lm li fs wt none) (st0 code text lim ls (pc + 2) pos hd (mk.setIfInBounds i (some pos)) (max lm i) (if i % 2 == 1 then (i / 2 + 1 : Nat) else li) fs wt none) 1 := by
  refine Goes.one rfl fun sn => ⟨sn.add 17, ?_⟩
  simp [st0, Sre.M.step, Sre.M.exec, Sre.M.word, h0, h1, hsz, Sre.ops, Sre.M.mark, hi]
/-- the end of the code -/
theorem st_yes (h0 : code.getD pc 0 = 1) (hsz : pc < code.size) : Goes (st0 code text lim ls pc pos hd mk lm li fs wt none) (st0 code text lim ls pc pos pos mk lm li fs wt (some true)) 1 := by
  refine Goes.one rfl fun sn => ⟨sn.add 1, ?_⟩
  simp [st0, Sre.M.step, Sre.M.exec, Sre.M.word, h0, hsz, Sre.ops, Sre.M.say]
theorem st_popG {p0 q0 : Nat} {k lm' li' : Int} : Goes (st0 code text lim ls pc pos hd mk lm li (frG p0 q0 k lm' li' :: fs) (wt + 1) (some true)) (st0 code text lim ls p0 q0 hd mk lm li fs wt (some true)) 1 := by
  refine Goes.one rfl fun sn => ⟨sn, ?_⟩
  simp [st0, frG, Sre.M.step, Sre.M.resume, Sre.M.say]
/-- the match is whole -/
noncomputable def won (code text : Array Nat) (lim ls hd : Nat) (mk : Array (Option Nat)) (lm li : Int) : Sre.M :=
  { st0 code text lim ls 5 0 hd mk lm li [] 0 (some true) with outcome := some .matched }
theorem st_pop0 : Goes (st0 code text lim ls pc pos hd mk lm li [fr0] 1 (some true)) (won code text lim ls hd mk lm li) 2 := by
  refine Goes.step (b := st0 code text lim ls 5 0 hd mk lm li [] 0 (some true)) rfl (fun sn => ⟨sn, ?_⟩) (Goes.one rfl fun sn => ⟨sn, ?_⟩)
  · simp [st0, fr0, Sre.M.step, Sre.M.resume, Sre.M.say]
  · simp [st0, won, Sre.M.step]
end

theorem Goes.ofEq {a b c : Sre.M} {sn : Sre.Seen} {k : Nat} (e : a = { b with seen := sn }) (g : Goes b c k) : Goes a c k := by subst e; exact g
theorem Fails.ofEq {a b : Sre.M} {sn : Sre.Seen} {k : Nat} (e : a = { b with seen := sn }) (g : Fails b k) : Fails a k := let ⟨m, h, g⟩ := g; ⟨m, h, Goes.ofEq e g⟩
theorem token_open {text : Array Nat} {n : Nat} (hn1 : 1 ≤ n) : ∃ sn, Sre.forSearch cTOKEN text 1 0 n false = { att cTOKEN text n n 0 true #[none, none] with seen := sn } := by
  obtain ⟨n, rfl⟩ : ∃ n', n = n' + 1 := ⟨n - 1, by omega⟩
  exact ⟨_, rfl⟩
theorem token_yes {text : Array Nat} {n k : Nat} (hc : ∀ p, text.getD p 0 < 128) (hlim : n ≤ 4294967295) (h0 : Unicode.isSpace (text.getD 0 0) = false) (hk : lead (fun c => !tokStop c) text n 0 = k) (hk1 : 1 ≤ k) (hn1 : 1 ≤ n) :
    Goes (Sre.forSearch cTOKEN text 1 0 n false) (won cTOKEN text n n k #[some 0, some k] 1 1) 20 := by
  obtain ⟨sn, e⟩ := token_open (text := text) hn1
  refine Goes.ofEq e ?_
  rw [att_st0]
  have hl0 : lead Unicode.isSpace text (n - 0) 0 = 0 := by
    obtain ⟨n, rfl⟩ : ∃ n', n = n' + 1 := ⟨n - 1, by omega⟩
    show (if Unicode.isSpace (text.getD 0 0) = true then _ else 0) = 0
    rw [h0]; rfl
  have g1 := st_at (code := cTOKEN) (text := text) (lim := n) (ls := n) (hd := 0) (mk := #[none, none]) (lm := -1) (li := -1) (fs := [fr0]) (wt := 1) anch_token
  have g2 := st_run (code := cTOKEN) (text := text) (lim := n) (ls := n) (pc := 7) (pos := 0) (hd := 0) (mk := #[none, none]) (lm := -1) (li := -1) (fs := [fr0]) (wt := 1) (least := 0) (skip := 9) (by decide) (by decide) (by decide) (by decide) (by decide) (fun p seen => tok_space _ seen) (by omega) hlim hl0 (by omega) (by omega) (by decide)
  have g3 := st_mark (code := cTOKEN) (text := text) (lim := n) (ls := n) (pc := 17) (pos := 0) (hd := 0) (mk := #[none, none]) (lm := -1) (li := -1) (fs := [frG 7 0 (0 : Nat) (-1) (-1), fr0]) (wt := 2) (i := 0) (by decide) (by decide) (by decide) (by decide)
  have g4 := st_run (code := cTOKEN) (text := text) (lim := n) (ls := n) (pc := 19) (pos := 0) (hd := 0) (mk := #[some 0, none]) (lm := 0) (li := -1) (fs := [frG 7 0 (0 : Nat) (-1) (-1), fr0]) (wt := 2) (least := 1) (skip := 19) (by decide) (by decide) (by decide) (by decide) (by decide) (fun p seen => tok_set _ (hc p) seen) (by omega) hlim hk hk1 (by omega) (by decide)
  have g5 := st_mark (code := cTOKEN) (text := text) (lim := n) (ls := n) (pc := 39) (pos := 0 + k) (hd := 0 + k) (mk := #[some 0, none]) (lm := 0) (li := -1) (fs := [frG 19 (0 + k) k 0 (-1), frG 7 0 (0 : Nat) (-1) (-1), fr0]) (wt := 3) (i := 1) (by decide) (by decide) (by decide) (by decide)
  have g6 := st_yes (code := cTOKEN) (text := text) (lim := n) (ls := n) (pc := 41) (pos := 0 + k) (hd := 0 + k) (mk := #[some 0, some (0 + k)]) (lm := 1) (li := 1) (fs := [frG 19 (0 + k) k 0 (-1), frG 7 0 (0 : Nat) (-1) (-1), fr0]) (wt := 3) (by decide) (by decide)
  have g7 := st_popG (code := cTOKEN) (text := text) (lim := n) (ls := n) (pc := 41) (pos := 0 + k) (hd := 0 + k) (mk := #[some 0, some (0 + k)]) (lm := 1) (li := 1) (fs := [frG 7 0 (0 : Nat) (-1) (-1), fr0]) (wt := 2) (p0 := 19) (q0 := 0 + k) (k := k) (lm' := 0) (li' := -1)
  have g8 := st_popG (code := cTOKEN) (text := text) (lim := n) (ls := n) (pc := 19) (pos := 0 + k) (hd := 0 + k) (mk := #[some 0, some (0 + k)]) (lm := 1) (li := 1) (fs := [fr0]) (wt := 1) (p0 := 7) (q0 := 0) (k := (0 : Nat)) (lm' := -1) (li' := -1)
  have g9 := st_pop0 (code := cTOKEN) (text := text) (lim := n) (ls := n) (pc := 7) (pos := 0) (hd := 0 + k) (mk := #[some 0, some (0 + k)]) (lm := 1) (li := 1)
  have g := (g1.trans (g2.trans (g3.trans (g4.trans (g5.trans (g6.trans (g7.trans (g8.trans g9))))))))
  rw [Nat.zero_add] at g
  exact g.mono (by decide)
end

section
open PySem.Sre
section
variable {code text : Array Nat} {lim ls pc pos hd wt : Nat} {mk : Array (Option Nat)} {lm li : Int} {fs : List Sre.Frame}
theorem st_runNo {P : Nat → Bool} {least : Nat} (h0 : code.getD pc 0 = 24) (h2 : code.getD (pc + 2) 0 = least) (h3 : code.getD (pc + 3) 0 = 4294967295) (hsz : pc < code.size)
    (hP : ∀ p seen, ∃ seen', Sre.accepts code (pc + 4) (text.getD p 0) seen = .ok (P (text.getD p 0), seen')) (hpos : pos ≤ lim) (hlim : lim ≤ 4294967295) (hl : lead P text (lim - pos) pos < least) :
    Goes (st0 code text lim ls pc pos hd mk lm li fs wt none) (st0 code text lim ls pc pos hd mk lm li fs wt (some false)) 1 := by
  refine Goes.one rfl fun sn => ?_
  by_cases hr : ((least : Nat) : Int) > (lim : Int) - (pos : Int)
  · refine ⟨sn.add 24, ?_⟩
    simp [st0, Sre.M.step, Sre.M.exec, Sre.M.word, h0, h2, h3, hsz, Sre.ops, hr, Sre.M.say]
  obtain ⟨s', e⟩ := run_lead hP (lim - pos) pos 0 ((sn.add 24).add (code.getD (pc + 4) 0))
  refine ⟨s', ?_⟩
  have er : ((lim : Int) - (pos : Int)).toNat = lim - pos := by omega
  have em : min 4294967295 (lim - pos) = lim - pos := by omega
  rw [Nat.zero_add, Array.getD_eq_getD_getElem?] at e
  simp [st0, Sre.M.step, Sre.M.exec, Sre.M.word, h0, h2, h3, hsz, Sre.ops, er, em, hr, Sre.M.say]
  rw [e]
  simp [hl]
/-- a run of none gives nothing back -/
theorem st_popG0 {p0 q0 : Nat} {lm' li' : Int} (h2 : code.getD (p0 + 2) 0 = 0) : Goes (st0 code text lim ls pc pos hd mk lm li (frG p0 q0 (0 : Nat) lm' li' :: fs) (wt + 1) (some false)) (st0 code text lim ls p0 q0 hd mk lm' li' fs wt (some false)) 1 := by
  refine Goes.one rfl fun sn => ⟨sn, ?_⟩
  simp [st0, frG, Sre.M.step, Sre.M.resume, Sre.M.say, Sre.M.putBack, Sre.M.word, h2]
theorem st_dead : st0 code text lim ls pc pos hd mk lm li [fr0] 1 (some false) = dead code text lim ls 0 true mk pc pos hd lm li true false := rfl
theorem st_litYes {c : Nat} (h0 : code.getD pc 0 = 16) (h1 : code.getD (pc + 1) 0 = c) (hsz : pc < code.size) (hp : pos < lim) (hc : text.getD pos 0 = c) :
    Goes (st0 code text lim ls pc pos hd mk lm li fs wt none) (st0 code text lim ls (pc + 2) (pos + 1) hd mk lm li fs wt none) 1 := by
  refine Goes.one rfl fun sn => ⟨sn.add 16, ?_⟩
  have hn : ¬ lim ≤ pos := by omega
  subst h1
  simp [st0, Sre.M.step, Sre.M.exec, Sre.M.word, h0, hsz, Sre.ops, hn, Sre.accepts, Sre.itemWidth]
  rw [Array.getD_eq_getD_getElem?, Array.getD_eq_getD_getElem?] at hc
  simp [hc]
theorem st_litNo {c : Nat} (h0 : code.getD pc 0 = 16) (h1 : code.getD (pc + 1) 0 = c) (hsz : pc < code.size) (hc : pos < lim → text.getD pos 0 ≠ c) :
    Goes (st0 code text lim ls pc pos hd mk lm li fs wt none) (st0 code text lim ls pc pos hd mk lm li fs wt (some false)) 1 := by
  refine Goes.one rfl fun sn => ⟨sn.add 16, ?_⟩
  subst h1
  by_cases hn : lim ≤ pos
  · simp [st0, Sre.M.step, Sre.M.exec, Sre.M.word, h0, hsz, Sre.ops, hn, Sre.M.say]
  · have hc := hc (by omega)
    rw [Array.getD_eq_getD_getElem?, Array.getD_eq_getD_getElem?] at hc
    have hb : (text[pos]?.getD 0 == code[pc + 1]?.getD 0) = false := by simpa using hc
    simp [st0, Sre.M.step, Sre.M.exec, Sre.M.word, h0, hsz, Sre.ops, hn, Sre.accepts, Sre.M.say, hb]
end
theorem lead_none {P : Nat → Bool} {text : Array Nat} {n p : Nat} (h : P (text.getD p 0) = false) : lead P text n p = 0 := by
  cases n with
  | zero => rfl
  | succ n => show (if P (text.getD p 0) = true then _ else 0) = 0; rw [h]; rfl
theorem token_no {text : Array Nat} {n : Nat} (hc : ∀ p, text.getD p 0 < 128) (hlim : n ≤ 4294967295) (h0 : Unicode.isSpace (text.getD 0 0) = false) (h1 : tokStop (text.getD 0 0) = true) (hn1 : 1 ≤ n) :
    Fails (Sre.forSearch cTOKEN text 1 0 n false) (2 * n + 20) := by
  obtain ⟨sn, e⟩ := token_open (text := text) hn1
  refine Fails.ofEq e ?_
  rw [att_st0]
  have g1 := st_at (code := cTOKEN) (text := text) (lim := n) (ls := n) (hd := 0) (mk := #[none, none]) (lm := -1) (li := -1) (fs := [fr0]) (wt := 1) anch_token
  have g2 := st_run (code := cTOKEN) (text := text) (lim := n) (ls := n) (pc := 7) (pos := 0) (hd := 0) (mk := #[none, none]) (lm := -1) (li := -1) (fs := [fr0]) (wt := 1) (least := 0) (skip := 9) (by decide) (by decide) (by decide) (by decide) (by decide) (fun p seen => tok_space _ seen) (by omega) hlim (lead_none h0) (by omega) (by omega) (by decide)
  have g3 := st_mark (code := cTOKEN) (text := text) (lim := n) (ls := n) (pc := 17) (pos := 0) (hd := 0) (mk := #[none, none]) (lm := -1) (li := -1) (fs := [frG 7 0 (0 : Nat) (-1) (-1), fr0]) (wt := 2) (i := 0) (by decide) (by decide) (by decide) (by decide)
  have g4 := st_runNo (code := cTOKEN) (text := text) (lim := n) (ls := n) (pc := 19) (pos := 0) (hd := 0) (mk := #[some 0, none]) (lm := 0) (li := -1) (fs := [frG 7 0 (0 : Nat) (-1) (-1), fr0]) (wt := 2) (least := 1) (by decide) (by decide) (by decide) (by decide) (P := fun c => !tokStop c) (fun p seen => tok_set _ (hc p) seen) (by omega) hlim (by rw [lead_none (by show (!tokStop _) = false; rw [h1]; rfl)]; decide)
  have g5 := st_popG0 (code := cTOKEN) (text := text) (lim := n) (ls := n) (pc := 19) (pos := 0) (hd := 0) (mk := #[some 0, none]) (lm := 0) (li := -1) (fs := [fr0]) (wt := 1) (p0 := 7) (q0 := 0) (lm' := -1) (li' := -1) (by decide)
  exact (Fails.from (g1.trans (g2.trans (g3.trans (g4.trans g5)))) (dead_fails anch_token)).mono (by omega)
end

section
open PySem.Sre
noncomputable def cVALUE : Array Nat := #[14, 4, 0, 1, 4294967295, 6, 0, 24, 9, 0, 4294967295, 13, 4, 8, 12, 0, 1, 16, 61, 24, 9, 0, 4294967295, 13, 4, 8, 12, 0, 1, 17, 0, 24, 14, 0, 4294967295, 13, 9, 21, 8, 12, 16, 59, 16, 44, 0, 1, 17, 1, 1]
theorem anch_value : Anch cVALUE := ⟨by decide, by decide, by decide, by decide, by decide⟩
theorem val_space (c : Nat) (seen : Sre.Seen) : ∃ seen', Sre.accepts cVALUE 11 c seen = .ok (Unicode.isSpace c, seen') := by
  have e : Sre.accepts cVALUE 11 c seen = (if (Unicode.isSpace c != false) = true then .ok (true, (seen.add 8).add 67) else .ok (false, ((seen.add 8).add 67).add 0)) := rfl
  rw [e]
  cases Unicode.isSpace c
  · exact ⟨_, rfl⟩
  · exact ⟨_, rfl⟩
theorem val_space2 (c : Nat) (seen : Sre.Seen) : ∃ seen', Sre.accepts cVALUE 23 c seen = .ok (Unicode.isSpace c, seen') := by
  have e : Sre.accepts cVALUE 23 c seen = (if (Unicode.isSpace c != false) = true then .ok (true, (seen.add 8).add 67) else .ok (false, ((seen.add 8).add 67).add 0)) := rfl
  rw [e]
  cases Unicode.isSpace c
  · exact ⟨_, rfl⟩
  · exact ⟨_, rfl⟩
noncomputable def valStop (c : Nat) : Bool := Unicode.isSpace c || c == 59 || c == 44
theorem val_set (c : Nat) (seen : Sre.Seen) : ∃ seen', Sre.accepts cVALUE 35 c seen = .ok (!valStop c, seen') := by
  have e : Sre.accepts cVALUE 35 c seen = (if (Unicode.isSpace c != false) = true then .ok (false, ((seen.add 21).add 8).add 67) else if (c == 59) = true then .ok (false, (((seen.add 21).add 8).add 67).add 16) else if (c == 44) = true then .ok (false, ((((seen.add 21).add 8).add 67).add 16).add 16) else .ok (true, (((((seen.add 21).add 8).add 67).add 16).add 16).add 0)) := rfl
  rw [e]
  unfold valStop
  cases Unicode.isSpace c <;> cases h1 : (c == 59) <;> cases h2 : (c == 44) <;> exact ⟨_, rfl⟩
theorem value_open {text : Array Nat} {n : Nat} (hn1 : 1 ≤ n) : ∃ sn, Sre.forSearch cVALUE text 1 0 n false = { att cVALUE text n n 0 true #[none, none] with seen := sn } := by
  obtain ⟨n, rfl⟩ : ∃ n', n = n' + 1 := ⟨n - 1, by omega⟩
  exact ⟨_, rfl⟩
theorem value_yes {text : Array Nat} {n k : Nat} (hlim : n ≤ 4294967295) (h0 : text.getD 0 0 = 61) (h1 : Unicode.isSpace (text.getD 1 0) = false) (hk : lead (fun c => !valStop c) text (n - 1) 1 = k) (hn1 : 1 ≤ n) :
    Goes (Sre.forSearch cVALUE text 1 0 n false) (won cVALUE text n n (1 + k) #[some 1, some (1 + k)] 1 1) 25 := by
  obtain ⟨sn, e⟩ := value_open (text := text) hn1
  refine Goes.ofEq e ?_
  rw [att_st0]
  have g1 := st_at (code := cVALUE) (text := text) (lim := n) (ls := n) (hd := 0) (mk := #[none, none]) (lm := -1) (li := -1) (fs := [fr0]) (wt := 1) anch_value
  have g2 := st_run (code := cVALUE) (text := text) (lim := n) (ls := n) (pc := 7) (pos := 0) (hd := 0) (mk := #[none, none]) (lm := -1) (li := -1) (fs := [fr0]) (wt := 1) (least := 0) (skip := 9) (by decide) (by decide) (by decide) (by decide) (by decide) (fun p seen => val_space _ seen) (by omega) hlim (lead_none (by rw [h0]; decide +kernel)) (by omega) (by omega) (by decide)
  have g3 := st_litYes (code := cVALUE) (text := text) (lim := n) (ls := n) (pc := 17) (pos := 0) (hd := 0) (mk := #[none, none]) (lm := -1) (li := -1) (fs := [frG 7 0 (0 : Nat) (-1) (-1), fr0]) (wt := 2) (c := 61) (by decide) (by decide) (by decide) (by omega) h0
  have g4 := st_run (code := cVALUE) (text := text) (lim := n) (ls := n) (pc := 19) (pos := 1) (hd := 0) (mk := #[none, none]) (lm := -1) (li := -1) (fs := [frG 7 0 (0 : Nat) (-1) (-1), fr0]) (wt := 2) (least := 0) (skip := 9) (by decide) (by decide) (by decide) (by decide) (by decide) (fun p seen => val_space2 _ seen) (by omega) hlim (lead_none h1) (by omega) (by omega) (by decide)
  have g5 := st_mark (code := cVALUE) (text := text) (lim := n) (ls := n) (pc := 29) (pos := 1) (hd := 1) (mk := #[none, none]) (lm := -1) (li := -1) (fs := [frG 19 1 (0 : Nat) (-1) (-1), frG 7 0 (0 : Nat) (-1) (-1), fr0]) (wt := 3) (i := 0) (by decide) (by decide) (by decide) (by decide)
  have g6 := st_run (code := cVALUE) (text := text) (lim := n) (ls := n) (pc := 31) (pos := 1) (hd := 1) (mk := #[some 1, none]) (lm := 0) (li := -1) (fs := [frG 19 1 (0 : Nat) (-1) (-1), frG 7 0 (0 : Nat) (-1) (-1), fr0]) (wt := 3) (least := 0) (skip := 14) (by decide) (by decide) (by decide) (by decide) (by decide) (fun p seen => val_set _ seen) (by omega) hlim hk (by omega) (by omega) (by decide)
  have g7 := st_mark (code := cVALUE) (text := text) (lim := n) (ls := n) (pc := 46) (pos := 1 + k) (hd := 1 + k) (mk := #[some 1, none]) (lm := 0) (li := -1) (fs := [frG 31 (1 + k) k 0 (-1), frG 19 1 (0 : Nat) (-1) (-1), frG 7 0 (0 : Nat) (-1) (-1), fr0]) (wt := 4) (i := 1) (by decide) (by decide) (by decide) (by decide)
  have g8 := st_yes (code := cVALUE) (text := text) (lim := n) (ls := n) (pc := 48) (pos := 1 + k) (hd := 1 + k) (mk := #[some 1, some (1 + k)]) (lm := 1) (li := 1) (fs := [frG 31 (1 + k) k 0 (-1), frG 19 1 (0 : Nat) (-1) (-1), frG 7 0 (0 : Nat) (-1) (-1), fr0]) (wt := 4) (by decide) (by decide)
  have g9 := st_popG (code := cVALUE) (text := text) (lim := n) (ls := n) (pc := 48) (pos := 1 + k) (hd := 1 + k) (mk := #[some 1, some (1 + k)]) (lm := 1) (li := 1) (fs := [frG 19 1 (0 : Nat) (-1) (-1), frG 7 0 (0 : Nat) (-1) (-1), fr0]) (wt := 3) (p0 := 31) (q0 := 1 + k) (k := k) (lm' := 0) (li' := -1)
  have g10 := st_popG (code := cVALUE) (text := text) (lim := n) (ls := n) (pc := 31) (pos := 1 + k) (hd := 1 + k) (mk := #[some 1, some (1 + k)]) (lm := 1) (li := 1) (fs := [frG 7 0 (0 : Nat) (-1) (-1), fr0]) (wt := 2) (p0 := 19) (q0 := 1) (k := (0 : Nat)) (lm' := -1) (li' := -1)
  have g11 := st_popG (code := cVALUE) (text := text) (lim := n) (ls := n) (pc := 19) (pos := 1) (hd := 1 + k) (mk := #[some 1, some (1 + k)]) (lm := 1) (li := 1) (fs := [fr0]) (wt := 1) (p0 := 7) (q0 := 0) (k := (0 : Nat)) (lm' := -1) (li' := -1)
  have g12 := st_pop0 (code := cVALUE) (text := text) (lim := n) (ls := n) (pc := 7) (pos := 0) (hd := 1 + k) (mk := #[some 1, some (1 + k)]) (lm := 1) (li := 1)
  exact (g1.trans (g2.trans (g3.trans (g4.trans (g5.trans (g6.trans (g7.trans (g8.trans (g9.trans (g10.trans (g11.trans g12))))))))))).mono (by decide)
theorem value_no {text : Array Nat} {n : Nat} (hlim : n ≤ 4294967295) (h0 : text.getD 0 0 ≠ 61) (h1 : Unicode.isSpace (text.getD 0 0) = false) (hn1 : 1 ≤ n) :
    Fails (Sre.forSearch cVALUE text 1 0 n false) (2 * n + 20) := by
  obtain ⟨sn, e⟩ := value_open (text := text) hn1
  refine Fails.ofEq e ?_
  rw [att_st0]
  have g1 := st_at (code := cVALUE) (text := text) (lim := n) (ls := n) (hd := 0) (mk := #[none, none]) (lm := -1) (li := -1) (fs := [fr0]) (wt := 1) anch_value
  have g2 := st_run (code := cVALUE) (text := text) (lim := n) (ls := n) (pc := 7) (pos := 0) (hd := 0) (mk := #[none, none]) (lm := -1) (li := -1) (fs := [fr0]) (wt := 1) (least := 0) (skip := 9) (by decide) (by decide) (by decide) (by decide) (by decide) (fun p seen => val_space _ seen) (by omega) hlim (lead_none h1) (by omega) (by omega) (by decide)
  have g3 := st_litNo (code := cVALUE) (text := text) (lim := n) (ls := n) (pc := 17) (pos := 0) (hd := 0) (mk := #[none, none]) (lm := -1) (li := -1) (fs := [frG 7 0 (0 : Nat) (-1) (-1), fr0]) (wt := 2) (c := 61) (by decide) (by decide) (by decide) (fun _ => h0)
  have g4 := st_popG0 (code := cVALUE) (text := text) (lim := n) (ls := n) (pc := 17) (pos := 0) (hd := 0) (mk := #[none, none]) (lm := -1) (li := -1) (fs := [fr0]) (wt := 1) (p0 := 7) (q0 := 0) (lm' := -1) (li' := -1) (by decide)
  exact (Fails.from (g1.trans (g2.trans (g3.trans g4))) (dead_fails anch_value)).mono (by omega)
end

section
open PySem.Sre
noncomputable def cQUOTED : Array Nat := #[14, 4, 0, 3, 4294967295, 6, 0, 24, 9, 0, 4294967295, 13, 4, 8, 12, 0, 1, 16, 61, 24, 9, 0, 4294967295, 13, 4, 8, 12, 0, 1, 16, 34, 17, 0, 24, 12, 0, 4294967295, 13, 7, 21, 16, 34, 16, 92, 0, 1, 23, 19, 0, 4294967295, 16, 92, 2, 24, 12, 0, 4294967295, 13, 7, 21, 16, 34, 16, 92, 0, 1, 18, 17, 1, 16, 34, 1]
theorem anch_quoted : Anch cQUOTED := ⟨by decide, by decide, by decide, by decide, by decide⟩
theorem quo_space (c : Nat) (seen : Sre.Seen) : ∃ seen', Sre.accepts cQUOTED 11 c seen = .ok (Unicode.isSpace c, seen') := by
  have e : Sre.accepts cQUOTED 11 c seen = (if (Unicode.isSpace c != false) = true then .ok (true, (seen.add 8).add 67) else .ok (false, ((seen.add 8).add 67).add 0)) := rfl
  rw [e]
  cases Unicode.isSpace c
  · exact ⟨_, rfl⟩
  · exact ⟨_, rfl⟩
theorem quo_space2 (c : Nat) (seen : Sre.Seen) : ∃ seen', Sre.accepts cQUOTED 23 c seen = .ok (Unicode.isSpace c, seen') := by
  have e : Sre.accepts cQUOTED 23 c seen = (if (Unicode.isSpace c != false) = true then .ok (true, (seen.add 8).add 67) else .ok (false, ((seen.add 8).add 67).add 0)) := rfl
  rw [e]
  cases Unicode.isSpace c
  · exact ⟨_, rfl⟩
  · exact ⟨_, rfl⟩
noncomputable def quoStop (c : Nat) : Bool := c == 34 || c == 92
theorem quo_set (c : Nat) (seen : Sre.Seen) : ∃ seen', Sre.accepts cQUOTED 37 c seen = .ok (!quoStop c, seen') := by
  have e : Sre.accepts cQUOTED 37 c seen = (if (c == 34) = true then .ok (false, (seen.add 21).add 16) else if (c == 92) = true then .ok (false, ((seen.add 21).add 16).add 16) else .ok (true, (((seen.add 21).add 16).add 16).add 0)) := rfl
  rw [e]
  unfold quoStop
  cases h1 : (c == 34) <;> cases h2 : (c == 92) <;> exact ⟨_, rfl⟩
theorem say_fails {m : Sre.M} (ha : m.answer = some false) (hf : m.frames = []) (ho : m.outcome = none) : Fails m 1 :=
  ⟨{ m with outcome := some .failed }, rfl, Goes.one ho fun sn => ⟨sn, by simp [Sre.M.step, ha, hf, ho]⟩⟩
/-- too short, or not -/
theorem quoted_open {text : Array Nat} {n : Nat} (hn : 3 ≤ n) : ∃ sn, Sre.forSearch cQUOTED text 1 0 n false = { att cQUOTED text n (max 0 (n - 2)) 0 true #[none, none] with seen := sn } := by
  obtain ⟨n, rfl⟩ : ∃ n', n = n' + 3 := ⟨n - 3, by omega⟩
  exact ⟨_, rfl⟩
theorem quoted_short {text : Array Nat} {n : Nat} (hn : n < 3) : Fails (Sre.forSearch cQUOTED text 1 0 n false) 2 := by
  obtain rfl | rfl | rfl : n = 0 ∨ n = 1 ∨ n = 2 := by omega
  all_goals exact (say_fails rfl rfl rfl).mono (by decide)
theorem quoted_no {text : Array Nat} {n : Nat} (hlim : n ≤ 4294967295) (h1 : Unicode.isSpace (text.getD 0 0) = false) (h0 : text.getD 0 0 ≠ 61 ∨ (text.getD 0 0 = 61 ∧ Unicode.isSpace (text.getD 1 0) = false ∧ text.getD 1 0 ≠ 34)) :
    Fails (Sre.forSearch cQUOTED text 1 0 n false) (2 * n + 20) := by
  by_cases hn : n < 3
  · exact (quoted_short hn).mono (by omega)
  obtain ⟨sn, e⟩ := quoted_open (text := text) (n := n) (by omega)
  refine Fails.ofEq e ?_
  generalize hls : max 0 (n - 2) = ls
  rw [att_st0]
  have g1 := st_at (code := cQUOTED) (text := text) (lim := n) (ls := ls) (hd := 0) (mk := #[none, none]) (lm := -1) (li := -1) (fs := [fr0]) (wt := 1) anch_quoted
  have g2 := st_run (code := cQUOTED) (text := text) (lim := n) (ls := ls) (pc := 7) (pos := 0) (hd := 0) (mk := #[none, none]) (lm := -1) (li := -1) (fs := [fr0]) (wt := 1) (least := 0) (skip := 9) (by decide) (by decide) (by decide) (by decide) (by decide) (fun p seen => quo_space _ seen) (by omega) hlim (lead_none h1) (by omega) (by omega) (by decide)
  rcases h0 with h0 | ⟨h0, h2, h3⟩
  · have g3 := st_litNo (code := cQUOTED) (text := text) (lim := n) (ls := ls) (pc := 17) (pos := 0) (hd := 0) (mk := #[none, none]) (lm := -1) (li := -1) (fs := [frG 7 0 (0 : Nat) (-1) (-1), fr0]) (wt := 2) (c := 61) (by decide) (by decide) (by decide) (fun _ => h0)
    have g4 := st_popG0 (code := cQUOTED) (text := text) (lim := n) (ls := ls) (pc := 17) (pos := 0) (hd := 0) (mk := #[none, none]) (lm := -1) (li := -1) (fs := [fr0]) (wt := 1) (p0 := 7) (q0 := 0) (lm' := -1) (li' := -1) (by decide)
    exact (Fails.from (g1.trans (g2.trans (g3.trans g4))) (dead_fails anch_quoted)).mono (by omega)
  · have g3 := st_litYes (code := cQUOTED) (text := text) (lim := n) (ls := ls) (pc := 17) (pos := 0) (hd := 0) (mk := #[none, none]) (lm := -1) (li := -1) (fs := [frG 7 0 (0 : Nat) (-1) (-1), fr0]) (wt := 2) (c := 61) (by decide) (by decide) (by decide) (by omega) h0
    have g4 := st_run (code := cQUOTED) (text := text) (lim := n) (ls := ls) (pc := 19) (pos := 1) (hd := 0) (mk := #[none, none]) (lm := -1) (li := -1) (fs := [frG 7 0 (0 : Nat) (-1) (-1), fr0]) (wt := 2) (least := 0) (skip := 9) (by decide) (by decide) (by decide) (by decide) (by decide) (fun p seen => quo_space2 _ seen) (by omega) hlim (lead_none h2) (by omega) (by omega) (by decide)
    have g5 := st_litNo (code := cQUOTED) (text := text) (lim := n) (ls := ls) (pc := 29) (pos := 1) (hd := 1) (mk := #[none, none]) (lm := -1) (li := -1) (fs := [frG 19 1 (0 : Nat) (-1) (-1), frG 7 0 (0 : Nat) (-1) (-1), fr0]) (wt := 3) (c := 34) (by decide) (by decide) (by decide) (fun _ => h3)
    have g6 := st_popG0 (code := cQUOTED) (text := text) (lim := n) (ls := ls) (pc := 29) (pos := 1) (hd := 1) (mk := #[none, none]) (lm := -1) (li := -1) (fs := [frG 7 0 (0 : Nat) (-1) (-1), fr0]) (wt := 2) (p0 := 19) (q0 := 1) (lm' := -1) (li' := -1) (by decide)
    have g7 := st_popG0 (code := cQUOTED) (text := text) (lim := n) (ls := ls) (pc := 19) (pos := 1) (hd := 1) (mk := #[none, none]) (lm := -1) (li := -1) (fs := [fr0]) (wt := 1) (p0 := 7) (q0 := 0) (lm' := -1) (li' := -1) (by decide)
    exact (Fails.from (g1.trans (g2.trans (g3.trans (g4.trans (g5.trans (g6.trans g7)))))) (dead_fails anch_quoted)).mono (by omega)
end

section
open PySem.Sre
theorem token_yes' {text : Array Nat} {n j k : Nat} (hc : ∀ p, text.getD p 0 < 128) (hlim : n ≤ 4294967295) (hj : lead Unicode.isSpace text n 0 = j) (hjn : j ≤ n) (hk : lead (fun c => !tokStop c) text (n - j) j = k) (hk1 : 1 ≤ k) (hn1 : 1 ≤ n) (hjn1 : 1 ≤ n - j) :
    Goes (Sre.forSearch cTOKEN text 1 0 n false) (won cTOKEN text n n (j + k) #[some j, some (j + k)] 1 1) 20 := by
  obtain ⟨sn, e⟩ := token_open (text := text) hn1
  refine Goes.ofEq e ?_
  rw [att_st0]
  have g1 := st_at (code := cTOKEN) (text := text) (lim := n) (ls := n) (hd := 0) (mk := #[none, none]) (lm := -1) (li := -1) (fs := [fr0]) (wt := 1) anch_token
  have g2 := st_run (code := cTOKEN) (text := text) (lim := n) (ls := n) (pc := 7) (pos := 0) (hd := 0) (mk := #[none, none]) (lm := -1) (li := -1) (fs := [fr0]) (wt := 1) (least := 0) (skip := 9) (by decide) (by decide) (by decide) (by decide) (by decide) (fun p seen => tok_space _ seen) (by omega) hlim hj (by omega) (by omega) (by decide)
  rw [Nat.zero_add] at g2
  have g3 := st_mark (code := cTOKEN) (text := text) (lim := n) (ls := n) (pc := 17) (pos := j) (hd := j) (mk := #[none, none]) (lm := -1) (li := -1) (fs := [frG 7 j j (-1) (-1), fr0]) (wt := 2) (i := 0) (by decide) (by decide) (by decide) (by decide)
  have g4 := st_run (code := cTOKEN) (text := text) (lim := n) (ls := n) (pc := 19) (pos := j) (hd := j) (mk := #[some j, none]) (lm := 0) (li := -1) (fs := [frG 7 j j (-1) (-1), fr0]) (wt := 2) (least := 1) (skip := 19) (by decide) (by decide) (by decide) (by decide) (by decide) (fun p seen => tok_set _ (hc p) seen) (by omega) hlim hk hk1 (by omega) (by decide)
  have g5 := st_mark (code := cTOKEN) (text := text) (lim := n) (ls := n) (pc := 39) (pos := j + k) (hd := j + k) (mk := #[some j, none]) (lm := 0) (li := -1) (fs := [frG 19 (j + k) k 0 (-1), frG 7 j j (-1) (-1), fr0]) (wt := 3) (i := 1) (by decide) (by decide) (by decide) (by decide)
  have g6 := st_yes (code := cTOKEN) (text := text) (lim := n) (ls := n) (pc := 41) (pos := j + k) (hd := j + k) (mk := #[some j, some (j + k)]) (lm := 1) (li := 1) (fs := [frG 19 (j + k) k 0 (-1), frG 7 j j (-1) (-1), fr0]) (wt := 3) (by decide) (by decide)
  have g7 := st_popG (code := cTOKEN) (text := text) (lim := n) (ls := n) (pc := 41) (pos := j + k) (hd := j + k) (mk := #[some j, some (j + k)]) (lm := 1) (li := 1) (fs := [frG 7 j j (-1) (-1), fr0]) (wt := 2) (p0 := 19) (q0 := j + k) (k := k) (lm' := 0) (li' := -1)
  have g8 := st_popG (code := cTOKEN) (text := text) (lim := n) (ls := n) (pc := 19) (pos := j + k) (hd := j + k) (mk := #[some j, some (j + k)]) (lm := 1) (li := 1) (fs := [fr0]) (wt := 1) (p0 := 7) (q0 := j) (k := j) (lm' := -1) (li' := -1)
  have g9 := st_pop0 (code := cTOKEN) (text := text) (lim := n) (ls := n) (pc := 7) (pos := j) (hd := j + k) (mk := #[some j, some (j + k)]) (lm := 1) (li := 1)
  have g := (g1.trans (g2.trans (g3.trans (g4.trans (g5.trans (g6.trans (g7.trans (g8.trans g9))))))))
  exact g.mono (by decide)

/-! a quoted value that closes -/
section
variable {text : Array Nat} {n ls k : Nat}
noncomputable def qB (text : Array Nat) (n ls k : Nat) : Sre.M :=
  st0 cQUOTED text n ls 46 (2 + k) (2 + k) #[some 2, none] 0 (-1) [frG 33 (2 + k) k 0 (-1), frG 19 1 (0 : Nat) (-1) (-1), frG 7 0 (0 : Nat) (-1) (-1), fr0] 4 none
noncomputable def frL (pos : Nat) : Sre.Frame := { wait := .closeLoop, pc := 46, pos := pos, outermost := true, loop := 0 }
noncomputable def qC (text : Array Nat) (n ls k : Nat) : Sre.M :=
  { qB text n ls k with pc := 66, frames := frL (2 + k) :: (qB text n ls k).frames, weight := 5, loops := #[{ pc := 46, outer := none }], inner := some 0 }
theorem q_bc : Goes (qB text n ls k) (qC text n ls k) 1 := by
  refine Goes.one rfl fun sn => ⟨sn.add 23, ?_⟩
  simp [qB, qC, st0, Sre.M.step, Sre.M.exec, Sre.M.word, cQUOTED, Sre.ops, Sre.M.attempt, Sre.M.frame, frL]
noncomputable def frM (pos : Nat) : Sre.Frame := { wait := .maxMore, pc := 67, pos := pos, outermost := true, count := 0, loop := 0, began := none, kept := { lastmark := 0, lastindex := -1, whole := true, marks := #[some 2] } }
noncomputable def qD (text : Array Nat) (n ls k : Nat) : Sre.M :=
  { qC text n ls k with pc := 50, frames := frM (2 + k) :: (qC text n ls k).frames, weight := 7, loops := #[{ pc := 46, outer := none, count := 0, began := some (2 + k) }] }
theorem q_cd : Goes (qC text n ls k) (qD text n ls k) 1 := by
  refine Goes.one rfl fun sn => ⟨sn.add 18, ?_⟩
  simp [qB, qC, qD, st0, Sre.M.step, Sre.M.exec, Sre.M.word, cQUOTED, Sre.ops, Sre.M.until_, Sre.M.loopAt, Sre.M.round, Sre.M.setLoop, Sre.M.keep, Sre.M.attempt, Sre.M.frame, frM, Sre.maxRepeat]
noncomputable def qE (text : Array Nat) (n ls k : Nat) : Sre.M := { qD text n ls k with answer := some false }
theorem q_de (h : text.getD (2 + k) 0 ≠ 92) : Goes (qD text n ls k) (qE text n ls k) 1 := by
  refine Goes.one rfl fun sn => ⟨sn.add 16, ?_⟩
  rw [Array.getD_eq_getD_getElem?] at h
  have hb : (text[2 + k]?.getD 0 == 92) = false := by simpa using h
  by_cases hn : n ≤ 2 + k
  · simp [qB, qC, qD, qE, st0, Sre.M.step, Sre.M.exec, Sre.M.word, cQUOTED, Sre.ops, Sre.M.say, hn]
  · simp [qB, qC, qD, qE, st0, Sre.M.step, Sre.M.exec, Sre.M.word, cQUOTED, Sre.ops, Sre.M.say, hn, Sre.accepts, hb]
noncomputable def frT (pos : Nat) : Sre.Frame := { wait := .maxTail, pc := 67, pos := pos, outermost := true, count := 0, loop := 0, kept := { lastmark := 0, lastindex := -1, whole := false, marks := #[] } }
noncomputable def qF (text : Array Nat) (n ls k : Nat) : Sre.M :=
  { qC text n ls k with pc := 67, frames := frT (2 + k) :: (qC text n ls k).frames, weight := 6, loops := #[{ pc := 46, outer := none, count := -1, began := none }], inner := none }
theorem q_ef : Goes (qE text n ls k) (qF text n ls k) 1 := by
  refine Goes.one rfl fun sn => ⟨sn, ?_⟩
  simp [qB, qC, qD, qE, qF, st0, Sre.M.step, Sre.M.resume, frM, frT, Sre.M.setLoop, Sre.M.putBack, Sre.M.afterLoop, Sre.M.loopAt, Sre.M.attempt, Sre.M.frame, Sre.M.keep]
noncomputable def qG (text : Array Nat) (n ls k : Nat) : Sre.M := { qF text n ls k with pc := 69, marks := #[some 2, some (2 + k)], lastmark := 1, lastindex := 1 }
theorem q_fg : Goes (qF text n ls k) (qG text n ls k) 1 := by
  refine Goes.one rfl fun sn => ⟨sn.add 17, ?_⟩
  simp [qB, qC, qF, qG, st0, Sre.M.step, Sre.M.exec, Sre.M.word, cQUOTED, Sre.ops, Sre.M.mark]
  decide
noncomputable def qH (text : Array Nat) (n ls k : Nat) : Sre.M := { qG text n ls k with pc := 71, pos := 3 + k }
theorem q_gh (hn : 2 + k < n) (h : text.getD (2 + k) 0 = 34) : Goes (qG text n ls k) (qH text n ls k) 1 := by
  refine Goes.one rfl fun sn => ⟨sn.add 16, ?_⟩
  have hl : ¬ n ≤ 2 + k := by omega
  rw [Array.getD_eq_getD_getElem?] at h
  simp [qB, qC, qF, qG, qH, st0, Sre.M.step, Sre.M.exec, Sre.M.word, cQUOTED, Sre.ops, hl, Sre.accepts, Sre.itemWidth, h]
  omega
noncomputable def qI (text : Array Nat) (n ls k : Nat) : Sre.M := { qH text n ls k with handed := 3 + k, answer := some true }
theorem q_hi : Goes (qH text n ls k) (qI text n ls k) 1 := by
  refine Goes.one rfl fun sn => ⟨sn.add 1, ?_⟩
  simp [qB, qC, qF, qG, qH, qI, st0, Sre.M.step, Sre.M.exec, Sre.M.word, cQUOTED, Sre.ops, Sre.M.say]
noncomputable def qJ (text : Array Nat) (n ls k : Nat) : Sre.M := st0 cQUOTED text n ls 46 (2 + k) (3 + k) #[some 2, some (2 + k)] 1 1 [frG 33 (2 + k) k 0 (-1), frG 19 1 (0 : Nat) (-1) (-1), frG 7 0 (0 : Nat) (-1) (-1), fr0] 4 (some true)
theorem q_ij : Goes (qI text n ls k) (qJ text n ls k) 2 := by
  refine Goes.step (b := { qI text n ls k with frames := frL (2 + k) :: (qB text n ls k).frames, weight := 5, pc := 67, pos := 2 + k, inner := some 0 }) rfl (fun sn => ⟨sn, ?_⟩) (Goes.one rfl fun sn => ⟨sn, ?_⟩)
  · simp [qB, qC, qF, qG, qH, qI, st0, Sre.M.step, Sre.M.resume, frT, frL, Sre.M.say]
  · simp [qB, qC, qF, qG, qH, qI, qJ, st0, Sre.M.step, Sre.M.resume, frL, Sre.M.say, Sre.M.loopAt]
end
theorem quoted_yes {text : Array Nat} {n k : Nat} (hlim : n ≤ 4294967295) (h0 : text.getD 0 0 = 61) (h1 : text.getD 1 0 = 34) (hk : lead (fun c => !quoStop c) text (n - 2) 2 = k) (h2 : text.getD (2 + k) 0 = 34) (hn : 2 + k < n) :
    Goes (Sre.forSearch cQUOTED text 1 0 n false) (won cQUOTED text n (max 0 (n - 2)) (3 + k) #[some 2, some (2 + k)] 1 1) 30 := by
  obtain ⟨sn, e⟩ := quoted_open (text := text) (n := n) (by omega)
  refine Goes.ofEq e ?_
  generalize hls : max 0 (n - 2) = ls
  rw [att_st0]
  have g1 := st_at (code := cQUOTED) (text := text) (lim := n) (ls := ls) (hd := 0) (mk := #[none, none]) (lm := -1) (li := -1) (fs := [fr0]) (wt := 1) anch_quoted
  have g2 := st_run (code := cQUOTED) (text := text) (lim := n) (ls := ls) (pc := 7) (pos := 0) (hd := 0) (mk := #[none, none]) (lm := -1) (li := -1) (fs := [fr0]) (wt := 1) (least := 0) (skip := 9) (by decide) (by decide) (by decide) (by decide) (by decide) (fun p seen => quo_space _ seen) (by omega) hlim (lead_none (by rw [h0]; decide +kernel)) (by omega) (by omega) (by decide)
  have g3 := st_litYes (code := cQUOTED) (text := text) (lim := n) (ls := ls) (pc := 17) (pos := 0) (hd := 0) (mk := #[none, none]) (lm := -1) (li := -1) (fs := [frG 7 0 (0 : Nat) (-1) (-1), fr0]) (wt := 2) (c := 61) (by decide) (by decide) (by decide) (by omega) h0
  have g4 := st_run (code := cQUOTED) (text := text) (lim := n) (ls := ls) (pc := 19) (pos := 1) (hd := 0) (mk := #[none, none]) (lm := -1) (li := -1) (fs := [frG 7 0 (0 : Nat) (-1) (-1), fr0]) (wt := 2) (least := 0) (skip := 9) (by decide) (by decide) (by decide) (by decide) (by decide) (fun p seen => quo_space2 _ seen) (by omega) hlim (lead_none (by rw [h1]; decide +kernel)) (by omega) (by omega) (by decide)
  have g5 := st_litYes (code := cQUOTED) (text := text) (lim := n) (ls := ls) (pc := 29) (pos := 1) (hd := 1) (mk := #[none, none]) (lm := -1) (li := -1) (fs := [frG 19 1 (0 : Nat) (-1) (-1), frG 7 0 (0 : Nat) (-1) (-1), fr0]) (wt := 3) (c := 34) (by decide) (by decide) (by decide) (by omega) h1
  have g6 := st_mark (code := cQUOTED) (text := text) (lim := n) (ls := ls) (pc := 31) (pos := 2) (hd := 1) (mk := #[none, none]) (lm := -1) (li := -1) (fs := [frG 19 1 (0 : Nat) (-1) (-1), frG 7 0 (0 : Nat) (-1) (-1), fr0]) (wt := 3) (i := 0) (by decide) (by decide) (by decide) (by decide)
  have g7 := st_run (code := cQUOTED) (text := text) (lim := n) (ls := ls) (pc := 33) (pos := 2) (hd := 1) (mk := #[some 2, none]) (lm := 0) (li := -1) (fs := [frG 19 1 (0 : Nat) (-1) (-1), frG 7 0 (0 : Nat) (-1) (-1), fr0]) (wt := 3) (least := 0) (skip := 12) (by decide) (by decide) (by decide) (by decide) (by decide) (fun p seen => quo_set _ seen) (by omega) hlim hk (by omega) (by omega) (by decide)
  have gq := (q_bc (text := text) (n := n) (ls := ls) (k := k)).trans (q_cd.trans ((q_de (by rw [h2]; decide)).trans (q_ef.trans (q_fg.trans ((q_gh hn h2).trans (q_hi.trans q_ij))))))
  have g8 := st_popG (code := cQUOTED) (text := text) (lim := n) (ls := ls) (pc := 46) (pos := 2 + k) (hd := 3 + k) (mk := #[some 2, some (2 + k)]) (lm := 1) (li := 1) (fs := [frG 19 1 (0 : Nat) (-1) (-1), frG 7 0 (0 : Nat) (-1) (-1), fr0]) (wt := 3) (p0 := 33) (q0 := 2 + k) (k := k) (lm' := 0) (li' := -1)
  have g9 := st_popG (code := cQUOTED) (text := text) (lim := n) (ls := ls) (pc := 33) (pos := 2 + k) (hd := 3 + k) (mk := #[some 2, some (2 + k)]) (lm := 1) (li := 1) (fs := [frG 7 0 (0 : Nat) (-1) (-1), fr0]) (wt := 2) (p0 := 19) (q0 := 1) (k := (0 : Nat)) (lm' := -1) (li' := -1)
  have g10 := st_popG (code := cQUOTED) (text := text) (lim := n) (ls := ls) (pc := 19) (pos := 1) (hd := 3 + k) (mk := #[some 2, some (2 + k)]) (lm := 1) (li := 1) (fs := [fr0]) (wt := 1) (p0 := 7) (q0 := 0) (k := (0 : Nat)) (lm' := -1) (li' := -1)
  have g11 := st_pop0 (code := cQUOTED) (text := text) (lim := n) (ls := ls) (pc := 7) (pos := 0) (hd := 3 + k) (mk := #[some 2, some (2 + k)]) (lm := 1) (li := 1)
  exact (g1.trans (g2.trans (g3.trans (g4.trans (g5.trans (g6.trans (g7.trans (gq.trans (g8.trans (g9.trans (g10.trans g11))))))))))).mono (by decide)
end

section
open PySem.Sre
/-! a set of first signs that admits none -/
theorem admitted_none {m : Sre.M} (h : ∀ s seen, s < m.lim → ∃ seen', Sre.inSet m.code (m.text.getD s 0) m.code.size 5 true seen = .ok (false, seen')) : ∀ (fuel s : Nat) (seen : Sre.Seen), ∃ seen', Sre.M.admitted m fuel s seen = .ok (none, seen')
  | 0, s, seen => ⟨seen, rfl⟩
  | fuel + 1, s, seen => by
    unfold Sre.M.admitted
    by_cases hs : s ≥ m.lim
    · rw [if_pos hs]; exact ⟨seen, rfl⟩
    · rw [if_neg hs]
      obtain ⟨s1, e1⟩ := h s seen (by omega)
      rw [e1]
      exact admitted_none h fuel (s + 1) s1
theorem first_fails {m : Sre.M} {s : Nat} {first : Bool} (hf : m.hasFirstSet = true) (h : ∀ s seen, s < m.lim → ∃ seen', Sre.inSet m.code (m.text.getD s 0) m.code.size 5 true seen = .ok (false, seen')) (hfr : m.frames = []) (ho : m.outcome = none) : Fails (m.attemptFrom s first) 1 := by
  unfold Sre.M.attemptFrom
  rw [hf]
  obtain ⟨s1, e1⟩ := admitted_none h (m.lim + 1 - s) s m.seen
  simp only [Bool.not_true, Bool.false_eq_true, if_false, e1]
  exact say_fails rfl hfr ho
noncomputable def cJESC : Array Nat := #[14, 9, 4, 1, 1, 16, 34, 16, 92, 0, 17, 0, 13, 6, 16, 34, 16, 92, 0, 17, 1, 1]
theorem jesc_none {text : Array Nat} {n : Nat} (h : ∀ p, p < n → text.getD p 0 ≠ 34 ∧ text.getD p 0 ≠ 92) : Fails (Sre.forSearch cJESC text 1 0 n false) 1 := by
  unfold Sre.forSearch
  dsimp only
  by_cases hn : (0 > n) ∨ n - 0 < (Sre.header cJESC).1
  · rw [if_pos (by simpa using hn)]; exact say_fails rfl rfl rfl
  · rw [if_neg (by simpa using hn)]
    refine first_fails rfl (fun s seen hs => ?_) rfl rfl
    obtain ⟨h1, h2⟩ := h s hs
    show ∃ seen', Sre.inSet cJESC (text.getD s 0) 22 5 true seen = .ok (false, seen')
    have e : Sre.inSet cJESC (text.getD s 0) 22 5 true seen = (if (text.getD s 0 == 34) = true then .ok (true, seen.add 16) else if (text.getD s 0 == 92) = true then .ok (true, (seen.add 16).add 16) else .ok (false, ((seen.add 16).add 16).add 0)) := rfl
    rw [e, if_neg (by simpa using h1), if_neg (by simpa using h2)]
    exact ⟨_, rfl⟩
noncomputable def cTWIN1 : Array Nat := #[14, 12, 4, 1, 1, 21, 22, 48, 57, 22, 65, 70, 0, 13, 9, 21, 22, 48, 57, 22, 65, 70, 0, 1]
theorem twin1_none {text : Array Nat} {n : Nat} (h : ∀ p, p < n → (48 ≤ text.getD p 0 ∧ text.getD p 0 ≤ 57) ∨ (65 ≤ text.getD p 0 ∧ text.getD p 0 ≤ 70)) : Fails (Sre.forSearch cTWIN1 text 0 0 n false) 1 := by
  unfold Sre.forSearch
  dsimp only
  by_cases hn : (0 > n) ∨ n - 0 < (Sre.header cTWIN1).1
  · rw [if_pos (by simpa using hn)]; exact say_fails rfl rfl rfl
  · rw [if_neg (by simpa using hn)]
    refine first_fails rfl (fun s seen hs => ?_) rfl rfl
    have h := h s hs
    show ∃ seen', Sre.inSet cTWIN1 (text.getD s 0) 24 5 true seen = .ok (false, seen')
    have e : Sre.inSet cTWIN1 (text.getD s 0) 24 5 true seen = (if (decide (48 ≤ text.getD s 0) && decide (text.getD s 0 ≤ 57)) = true then .ok (false, (seen.add 21).add 22) else if (decide (65 ≤ text.getD s 0) && decide (text.getD s 0 ≤ 70)) = true then .ok (false, ((seen.add 21).add 22).add 22) else .ok (true, (((seen.add 21).add 22).add 22).add 0)) := rfl
    rw [e]
    generalize text.getD s 0 = c at h
    by_cases h1 : (decide (48 ≤ c) && decide (c ≤ 57)) = true
    · rw [if_pos h1]; exact ⟨_, rfl⟩
    · rw [if_neg h1, if_pos (by simp at h1 ⊢; omega)]; exact ⟨_, rfl⟩
/-! a first sign that stands nowhere -/
noncomputable def cESC : Array Nat := #[14, 8, 1, 2, 2, 1, 1, 92, 0, 16, 92, 17, 0, 2, 17, 1, 1]
noncomputable def attE (text : Array Nat) (n q hd : Nat) (out oo : Bool) (an : Option Bool) (fs : List Sre.Frame) (wt : Nat) : Sre.M :=
  { code := cESC, text := text, lim := n, start := q, lastStart := n, pc := 9, pos := q, handed := hd, outermost := oo, marks := #[none, none], frames := fs, weight := wt, answer := an }
noncomputable def frE (q : Nat) (out : Bool) : Sre.Frame := { wait := .nextStart, pc := 9, pos := q, outermost := out }
section
variable {text : Array Nat} {n q : Nat} {out : Bool}
theorem esc_no (h : q < n → text.getD q 0 ≠ 92) : Goes (attE text n q q out out none [frE q out] 1) (attE text n q q out out (some false) [frE q out] 1) 1 := by
  refine Goes.one rfl fun sn => ⟨sn.add 16, ?_⟩
  by_cases hn : n ≤ q
  · simp [attE, Sre.M.step, Sre.M.exec, Sre.M.word, cESC, Sre.ops, hn, Sre.M.say]
  · have h := h (by omega)
    rw [Array.getD_eq_getD_getElem?] at h
    have hb : (text[q]?.getD 0 == 92) = false := by simpa using h
    simp [attE, Sre.M.step, Sre.M.exec, Sre.M.word, cESC, Sre.ops, hn, Sre.M.say, Sre.accepts, hb]
theorem esc_next (hq : q < n) : Goes (attE text n q q out out (some false) [frE q out] 1) (attE text n (q + 1) (q + 1) false false none [frE (q + 1) false] 1) 1 := by
  refine Goes.one rfl fun sn => ⟨sn, ?_⟩
  simp [attE, frE, Sre.M.step, Sre.M.resume, hq, Sre.M.attemptFrom, Sre.M.hasFirstSet, cESC, Sre.ops, Sre.M.attemptAt, Sre.M.attempt]
theorem esc_last (hq : ¬ q < n) : Fails (attE text n q q out out (some false) [frE q out] 1) 2 := by
  refine ⟨{ attE text n q q out out (some false) [] 0 with outcome := some .failed }, rfl, ?_⟩
  refine Goes.step (b := attE text n q q out out (some false) [] 0) rfl (fun sn => ⟨sn, ?_⟩) (Goes.one rfl fun sn => ⟨sn, ?_⟩)
  · simp [attE, frE, Sre.M.step, Sre.M.resume, hq, Sre.M.say, Sre.M.putBack]
  · simp [attE, Sre.M.step]
end
theorem esc_from {text : Array Nat} {n : Nat} (h : ∀ p, p < n → text.getD p 0 ≠ 92) : ∀ (r q : Nat) (out : Bool), q + r = n → Fails (attE text n q q out out none [frE q out] 1) (2 * r + 3)
  | 0, q, _, e => (Fails.from (esc_no (fun hq => h q hq)) (esc_last (by omega))).mono (by omega)
  | r + 1, q, _, e => (Fails.from (esc_no (fun hq => h q hq)) (Fails.from (esc_next (by omega)) (esc_from h r (q + 1) false (by omega)))).mono (by omega)
theorem esc_none {text : Array Nat} {n : Nat} (h : ∀ p, p < n → text.getD p 0 ≠ 92) : Fails (Sre.forSearch cESC text 1 0 n false) (2 * n + 3) := by
  by_cases hn : n < 2
  · obtain rfl | rfl : n = 0 ∨ n = 1 := by omega
    all_goals exact (say_fails rfl rfl rfl).mono (by decide)
  · have e : ∃ sn, Sre.forSearch cESC text 1 0 n false = { attE text n 0 0 true true none [frE 0 true] 1 with seen := sn } := by
      obtain ⟨n, rfl⟩ : ∃ n', n = n' + 2 := ⟨n - 2, by omega⟩
      exact ⟨_, rfl⟩
    obtain ⟨sn, e⟩ := e
    exact Fails.ofEq e (esc_from h n 0 true (by omega))
/-! a token, whole -/
noncomputable def cJTOK : Array Nat := #[14, 4, 0, 1, 4294967295, 24, 16, 1, 4294967295, 13, 11, 9, 0, 67071226, 3355443198, 1476395007, 0, 0, 0, 0, 0, 1, 1]
noncomputable def jtok (c : Nat) : Bool := (decide (c < 256) && (cJTOK.getD (11 + (1 + c / 32)) 0).testBit (c % 32))
theorem jtok_set (c : Nat) (seen : Sre.Seen) : ∃ seen', Sre.accepts cJTOK 9 c seen = .ok (jtok c, seen') := by
  have e : Sre.accepts cJTOK 9 c seen = (if (decide (c < 256) && (cJTOK.getD (11 + (1 + c / 32)) 0).testBit (c % 32)) = true then .ok (true, seen.add 9) else .ok (false, (seen.add 9).add 0)) := rfl
  rw [e]
  unfold jtok
  cases (decide (c < 256) && (cJTOK.getD (11 + (1 + c / 32)) 0).testBit (c % 32))
  · exact ⟨_, rfl⟩
  · exact ⟨_, rfl⟩
noncomputable def jst (text : Array Nat) (n pc pos hd : Nat) (fs : List Sre.Frame) (wt : Nat) (an : Option Bool) : Sre.M :=
  { code := cJTOK, text := text, lim := n, start := 0, wholeText := true, pc := pc, pos := pos, handed := hd, marks := #[], frames := fs, weight := wt, answer := an }
section
variable {text : Array Nat} {n k : Nat}
theorem jt_run (hlim : n ≤ 4294967295) (hn : 1 ≤ n) (hk : lead jtok text n 0 = k) (hk1 : 1 ≤ k) : Goes (jst text n 5 0 0 [] 0 none) (jst text n 22 k k [frG 5 k k (-1) (-1)] 1 none) 1 := by
  refine Goes.one rfl fun sn => ?_
  obtain ⟨s', e⟩ := run_lead (fun p seen => jtok_set (text.getD p 0) seen) n 0 0 ((sn.add 24).add 13)
  refine ⟨s', ?_⟩
  rw [Nat.zero_add, hk] at e
  have hn1 : ¬ ((1 : Int) > (n : Int)) := by omega
  have em : min 4294967295 n = n := by omega
  have hn2 : ¬ k < 1 := by omega
  simp [jst, Sre.M.step, Sre.M.exec, Sre.M.word, show cJTOK.getD 5 0 = 24 from rfl, Sre.ops]
  simp [cJTOK, hn1, em] at e ⊢
  rw [e]
  have hk0 : ¬ k = 0 := by omega
  simp [hk0, Sre.M.afterRun, Sre.M.attempt, Sre.M.frame, Sre.M.keep, frG, Sre.M.word]
  intro h; omega
theorem jt_runNo (hlim : n ≤ 4294967295) (hk : lead jtok text n 0 = 0) : Fails (jst text n 5 0 0 [] 0 none) 2 := by
  refine Fails.from (j := 1) (k := 1) (b := jst text n 5 0 0 [] 0 (some false)) (Goes.one rfl fun sn => ?_) (say_fails rfl rfl rfl)
  by_cases hr : (1 : Int) > (n : Int)
  · refine ⟨sn.add 24, ?_⟩
    have : n = 0 := by omega
    subst this
    simp [jst, Sre.M.step, Sre.M.exec, Sre.M.word, cJTOK, Sre.ops, Sre.M.say]
  obtain ⟨s', e⟩ := run_lead (fun p seen => jtok_set (text.getD p 0) seen) n 0 0 ((sn.add 24).add 13)
  refine ⟨s', ?_⟩
  rw [Nat.zero_add, hk] at e
  have em : min 4294967295 n = n := by omega
  simp [jst, Sre.M.step, Sre.M.exec, Sre.M.word, show cJTOK.getD 5 0 = 24 from rfl, Sre.ops]
  simp [cJTOK, hr, em] at e ⊢
  rw [e]
  simp [Sre.M.say]
  intro h; omega
theorem jt_ok : Goes (jst text n 22 n n [frG 5 n n (-1) (-1)] 1 none) { jst text n 5 n n [] 0 (some true) with outcome := some .matched } 3 := by
  refine Goes.step (b := jst text n 22 n n [frG 5 n n (-1) (-1)] 1 (some true)) rfl (fun sn => ⟨sn.add 1, ?_⟩) (Goes.step (b := jst text n 5 n n [] 0 (some true)) rfl (fun sn => ⟨sn, ?_⟩) (Goes.one rfl fun sn => ⟨sn, ?_⟩))
  · simp [jst, Sre.M.step, Sre.M.exec, Sre.M.word, cJTOK, Sre.ops, Sre.M.say]
  · simp [jst, frG, Sre.M.step, Sre.M.resume, Sre.M.say]
  · simp [jst, Sre.M.step]
theorem jt_back (n : Nat) : ∀ (j : Nat), 1 ≤ j → j < n → Fails (jst text n 22 j j [frG 5 j j (-1) (-1)] 1 none) (2 * j + 1)
  | 0, h, _ => by omega
  | j + 1, _, hj => by
    have g1 : Goes (jst text n 22 (j + 1) (j + 1) [frG 5 (j + 1) (j + 1 : Nat) (-1) (-1)] 1 none) (jst text n 22 (j + 1) (j + 1) [frG 5 (j + 1) (j + 1 : Nat) (-1) (-1)] 1 (some false)) 1 := by
      refine Goes.one rfl fun sn => ⟨sn.add 1, ?_⟩
      have hne : ¬ j + 1 = n := by omega
      simp [jst, Sre.M.step, Sre.M.exec, Sre.M.word, cJTOK, Sre.ops, Sre.M.say, hne]
    cases j with
    | zero =>
      have g2 : Goes (jst text n 22 1 1 [frG 5 1 (1 : Nat) (-1) (-1)] 1 (some false)) (jst text n 5 1 1 [] 0 (some false)) 1 := by
        refine Goes.one rfl fun sn => ⟨sn, ?_⟩
        simp [jst, frG, Sre.M.step, Sre.M.resume, Sre.M.say, Sre.M.putBack, Sre.M.word, cJTOK]
      exact (Fails.from g1 (Fails.from g2 (say_fails rfl rfl rfl))).mono (by decide)
    | succ j =>
      have g2 : Goes (jst text n 22 (j + 2) (j + 2) [frG 5 (j + 2) (j + 2 : Nat) (-1) (-1)] 1 (some false)) (jst text n 22 (j + 1) (j + 1) [frG 5 (j + 1) (j + 1 : Nat) (-1) (-1)] 1 none) 1 := by
        refine Goes.one rfl fun sn => ⟨sn, ?_⟩
        have h1 : ¬ ((j : Int) + 2 - 1 < 1) := by omega
        have h2 : ((j : Int) + 1 + 1 - 1) = (j : Int) + 1 := by omega
        have h3 : ((j : Int) + 2 - 1) = (j : Int) + 1 := by omega
        simp [jst, frG, Sre.M.step, Sre.M.resume, Sre.M.say, Sre.M.putBack, Sre.M.word, cJTOK, h2, Sre.M.afterRun, Sre.M.attempt, Sre.M.frame]
        simp [h1, h3]
        omega
      exact (Fails.from g1 (Fails.from g2 (jt_back n (j + 1) (by omega) (by omega)))).mono (by omega)
end
theorem lead_le {P : Nat → Bool} {text : Array Nat} : ∀ (n p : Nat), lead P text n p ≤ n
  | 0, p => Nat.le_refl 0
  | n + 1, p => by
    unfold lead
    split
    · have := lead_le (P := P) (text := text) n (p + 1); omega
    · omega
theorem jtok_open {text : Array Nat} {n : Nat} (hn : 1 ≤ n) : ∃ sn, Sre.forMatch cJTOK text 0 0 n true false = { jst text n 5 0 0 [] 0 none with seen := sn } := by
  obtain ⟨n, rfl⟩ : ∃ n', n = n' + 1 := ⟨n - 1, by omega⟩
  exact ⟨_, rfl⟩
theorem jtok_yes {text : Array Nat} {n : Nat} (hlim : n ≤ 4294967295) (hn : 1 ≤ n) (hk : lead jtok text n 0 = n) : Goes (Sre.forMatch cJTOK text 0 0 n true false) { jst text n 5 n n [] 0 (some true) with outcome := some .matched } 10 := by
  obtain ⟨sn, e⟩ := jtok_open (text := text) hn
  exact Goes.ofEq e (((jt_run hlim hn hk hn).trans jt_ok).mono (by decide))
theorem jtok_no {text : Array Nat} {n : Nat} (hlim : n ≤ 4294967295) (hk : n = 0 ∨ lead jtok text n 0 ≠ n) : Fails (Sre.forMatch cJTOK text 0 0 n true false) (2 * n + 10) := by
  by_cases hn : n = 0
  · subst hn
    exact (say_fails rfl rfl rfl).mono (by decide)
  obtain ⟨sn, e⟩ := jtok_open (text := text) (n := n) (by omega)
  refine Fails.ofEq e ?_
  by_cases h0 : lead jtok text n 0 = 0
  · exact (jt_runNo hlim h0).mono (by omega)
  · have hl := lead_le (P := jtok) (text := text) n 0
    exact (Fails.from (jt_run hlim (by omega) rfl (by omega)) (jt_back n _ (by omega) (by omega))).mono (by omega)
/-! signs to be dropped at the head -/
noncomputable def cTWIN7 : Array Nat := #[14, 4, 0, 0, 4294967295, 6, 0, 24, 13, 0, 4294967295, 13, 8, 16, 61, 8, 12, 16, 59, 0, 1, 1]
theorem anch_twin7 : Anch cTWIN7 := ⟨by decide, by decide, by decide, by decide, by decide⟩
noncomputable def junk (c : Nat) : Bool := c == 61 || Unicode.isSpace c || c == 59
theorem junk_set (c : Nat) (seen : Sre.Seen) : ∃ seen', Sre.accepts cTWIN7 11 c seen = .ok (junk c, seen') := by
  have e : Sre.accepts cTWIN7 11 c seen = (if (c == 61) = true then .ok (true, seen.add 16) else if (Unicode.isSpace c != false) = true then .ok (true, ((seen.add 16).add 8).add 67) else if (c == 59) = true then .ok (true, (((seen.add 16).add 8).add 67).add 16) else .ok (false, ((((seen.add 16).add 8).add 67).add 16).add 0)) := rfl
  rw [e]
  unfold junk
  cases Unicode.isSpace c <;> cases h1 : (c == 61) <;> cases h2 : (c == 59) <;> exact ⟨_, rfl⟩
theorem twin7_open {text : Array Nat} {n q : Nat} (hq : q ≤ n) : ∃ sn, Sre.forSearch cTWIN7 text 0 q n false = { att cTWIN7 text n n q true #[] with seen := sn } := by
  unfold Sre.forSearch
  dsimp only
  rw [if_neg (by show ¬ ((decide (q > n) || decide (n - q < 0)) = true); simp; omega)]
  exact ⟨_, rfl⟩
theorem twin7_yes {text : Array Nat} {n k : Nat} (hlim : n ≤ 4294967295) (hk : lead junk text n 0 = k) :
    Goes (Sre.forSearch cTWIN7 text 0 0 n false) (won cTWIN7 text n n k #[] (-1) (-1)) 20 := by
  obtain ⟨sn, e⟩ := twin7_open (text := text) (n := n) (q := 0) (by omega)
  refine Goes.ofEq e ?_
  rw [att_st0]
  have g1 := st_at (code := cTWIN7) (text := text) (lim := n) (ls := n) (hd := 0) (mk := #[]) (lm := -1) (li := -1) (fs := [fr0]) (wt := 1) anch_twin7
  have g2 := st_run (code := cTWIN7) (text := text) (lim := n) (ls := n) (pc := 7) (pos := 0) (hd := 0) (mk := #[]) (lm := -1) (li := -1) (fs := [fr0]) (wt := 1) (least := 0) (skip := 13) (by decide) (by decide) (by decide) (by decide) (by decide) (fun p seen => junk_set _ seen) (by omega) hlim hk (by omega) (by omega) (by decide)
  rw [Nat.zero_add] at g2
  have g3 := st_yes (code := cTWIN7) (text := text) (lim := n) (ls := n) (pc := 21) (pos := k) (hd := k) (mk := #[]) (lm := -1) (li := -1) (fs := [frG 7 k k (-1) (-1), fr0]) (wt := 2) (by decide) (by decide)
  have g4 := st_popG (code := cTWIN7) (text := text) (lim := n) (ls := n) (pc := 21) (pos := k) (hd := k) (mk := #[]) (lm := -1) (li := -1) (fs := [fr0]) (wt := 1) (p0 := 7) (q0 := k) (k := k) (lm' := -1) (li' := -1)
  have g5 := st_pop0 (code := cTWIN7) (text := text) (lim := n) (ls := n) (pc := 7) (pos := k) (hd := k) (mk := #[]) (lm := -1) (li := -1)
  exact (g1.trans (g2.trans (g3.trans (g4.trans g5)))).mono (by decide)
theorem twin7_no {text : Array Nat} {n q : Nat} (hq : 0 < q) (hqn : q ≤ n) : Fails (Sre.forSearch cTWIN7 text 0 q n false) (2 * n + 3) := by
  obtain ⟨sn, e⟩ := twin7_open (text := text) hqn
  exact Fails.ofEq e ((anch_fails anch_twin7 (n - q) q true hq (by omega)).mono (by omega))
end

section
open Builtin.Re in
theorem named_search (x : Value) : reNamed "re.Pattern.search" "search" ["string", "pos", "endpos"] 1 [x] [] = pure [some x, none, none] := by rfl
open Builtin.Re in
theorem named_fullmatch (x : Value) : reNamed "re.Pattern.fullmatch" "fullmatch" ["string", "pos", "endpos"] 1 [x] [] = pure [some x, none, none] := by rfl
open Builtin.Re in
theorem named_sub (x y : Value) : reNamed "re.Pattern.sub" "sub" ["repl", "string", "count"] 2 [x, y] [] = pure [some x, some y, none] := by rfl
open Builtin.Re in
theorem named_subn (x y : Value) : reNamed "re.Pattern.subn" "subn" ["repl", "string", "count"] 2 [x, y] [] = pure [some x, some y, none] := by rfl
/-- a pattern, as it lies in the heap -/
structure Pat (h : Heap) (a : Addr) (code : Array Nat) (g k : Nat) : Prop where
  ex : ∃ o fs b ot xs n, h.get? a = some o ∧ o.cls = .type "re.Pattern" ∧ o.dict = none ∧ o.data = .fields fs ∧ Builtin.Re.reRawNat (fs.getD 2 .none) = g ∧ fs.getD 5 .none = .ref b ∧ Builtin.Re.reRawNat (fs.getD 6 .none) = k ∧
    h.get? b = some ot ∧ ot.data = .seq xs n ∧ (xs.map Builtin.Re.reRawOf).map (·.toNat) = code
theorem Pat.keeps {h h' : Heap} {a : Addr} {code : Array Nat} {g k : Nat} (p : Pat h a code g k) (hk : ∀ b o, h.get? b = some o → h'.get? b = some o) : Pat h' a code g k := by
  obtain ⟨o, fs, b, ot, xs, n, h1, h2, h3, h4, h5, h6, h7, h8, h9, h10⟩ := p.ex
  exact ⟨o, fs, b, ot, xs, n, hk _ _ h1, h2, h3, h4, h5, h6, h7, hk _ _ h8, h9, h10⟩
theorem Pat.isPat {s : Shared} {a : Addr} {code : Array Nat} {g k : Nat} (p : Pat s.heap a code g k) : s.TypeIs (.ref a) "re.Pattern" := by
  obtain ⟨o, fs, b, ot, xs, n, h1, h2, h3, h4, h5, h6, h7, h8, h9, h10⟩ := p.ex
  exact ⟨o, h1, h2⟩
/-- what a search is about: a text or bytes -/
inductive Subj : Value → Array Nat → Nat → Prop
  | str (x : Str) (t : Tok) : Subj (.str x t) x.cps 0
  | bytes (b : Array UInt8) (t : Tok) : Subj (.bytes b t) (b.map (·.toNat)) 1
section
variable {M : Model} {A : Around} {E : Value → Shared → Prop} {s : Shared} {a : Addr} {v : Value} {text code : Array Nat} {g k : Nat}
open Builtin.Re
theorem textOf_eq (sj : Subj v text k) : reTextOf v = pure (text, k) := by
  cases sj with
  | str x t => rfl
  | bytes b t =>
    show (Builtin.Bytes.bufferQuiet? "_sre" (.bytes b t) >>= _) = _
    rw [KBy.quiet_eq]
    rfl
theorem noColl_eq (sj : Subj v text k) : reNoCollectionInside v k = pure () := by
  cases sj with
  | str x t => rfl
  | bytes b t =>
    show (isInstance (.bytes b t) (.type "bytes") >>= _) = _
    show ((typeOf (.bytes b t) >>= fun T => isSubtype T (.type "bytes")) >>= _) = _
    show (isSubtype (.type "bytes") (.type "bytes") >>= _) = _
    rw [show isSubtype (.type "bytes") (.type "bytes") = pure true by rw [isSubtype_type]; kernel_rfl]
    rfl
theorem wp_rawItems {b : Addr} {o : Obj} {xs : Array Value} {n : Nat} {Q : Array Int → Shared → Prop} (ho : s.heap.get? b = some o) (hd : o.data = .seq xs n) (h : Q (xs.map reRawOf) s) : wpAny M A (reRawItems (.ref b)) Q E s := by
  unfold reRawItems seqItems?
  refine wpAny_bind (wpAny_bind (wpAny_load ho ?_))
  rw [hd]
  exact wpAny_pure (wpAny_pure h)
theorem wp_target (P : Pat s.heap a code g k) (sj : Subj v text k) {id f : String} {Q : ReTarget → Shared → Prop} (hn : reNamed id f ["string", "pos", "endpos"] 1 [v] [] = pure [some v, none, none])
    (hz : (text.size : Int) < 2 ^ 63) (h : Q { pattern := .ref a, string := v, code := code, text := text, kind := k, groups := g, pos := 0, lim := text.size } s) : wpAny M A (reTarget id f ⟨[.ref a, v], []⟩) Q E s := by
  obtain ⟨o, fs, b, ot, xs, n, h1, h2, h3, h4, h5, h6, h7, h8, h9, h10⟩ := P.ex
  unfold reTarget
  dsimp only
  rw [hn]
  refine wpAny_bind (wpAny_pure ?_)
  dsimp only
  refine wpAny_bind (wpAny_pure ?_)
  refine wpAny_bind (wpAny_pure ?_)
  refine wpAny_bind (wpAny_fieldsOf h1 h4 ?_)
  refine wpAny_bind (wpAny_of_eq (textOf_eq sj) ?_)
  dsimp only
  rw [h7, h6, h5]
  have hk : k = 0 ∨ k = 1 := by cases sj <;> simp
  have e1 : ¬ ((k == 0 && k == 1) = true) := by rcases hk with rfl | rfl <;> decide
  have e2 : ¬ ((k == 1 && k == 0) = true) := by rcases hk with rfl | rfl <;> decide
  rw [if_neg e1, if_neg e2]
  refine wpAny_bind (wpAny_of_eq (noColl_eq sj) ?_)
  refine wpAny_bind (wp_rawItems h8 h9 ?_)
  rw [h10]
  refine wpAny_pure ?_
  have e3 : min (0 : Int).toNat text.size = 0 := by simp
  have e4 : min ((2 ^ 63 - 1 : Int)).toNat text.size = text.size := by omega
  rw [e3, e4]
  exact h
/-! a match, as it is laid -/
noncomputable def spansOf (g : Nat) (m : Sre.M) : List Value := (List.range g).flatMap fun g =>
    match if ((2 * g + 1 : Nat) : Int) ≤ m.lastmark then (m.marks.getD (2 * g) none, m.marks.getD (2 * g + 1) none) else (none, none) with
    | (some b, some e) => [rawInt b, rawInt e]
    | _ => [rawInt (-1), rawInt (-1)]
noncomputable def wrongOf (g : Nat) (m : Sre.M) : Bool := (List.range g).any (fun g => match m.marks.getD (2 * g) none, m.marks.getD (2 * g + 1) none with | some b, some e => ((2 * g + 1 : Nat) : Int) ≤ m.lastmark && e < b | _, _ => false)
noncomputable def spO (vs : List Value) : Obj := { cls := .type "tuple", data := .seq vs.toArray }
noncomputable def matO (v : Value) (a : Addr) (n : Nat) (li : Int) (b : Addr) : Obj := { cls := .type "re.Match", data := .fields [v, .ref a, rawInt 0, rawInt n, rawInt li, .ref b].toArray }
theorem wp_newMatch {m : Sre.M} {n : Nat} {Q : Value → Shared → Prop} (hw : wrongOf g m = false) (hs : (spansOf g m).length ≤ 1000)
    (h : Q (.ref (s.heap.objs.size + 1)) { s with heap := (s.heap.push (spO (rawInt m.start :: rawInt m.handed :: spansOf g m))).push (matO v a n m.lastindex s.heap.objs.size) }) : wpAny M A (reNewMatch (.ref a) v g 0 n m) Q E s := by
  show wpAny M A (if wrongOf g m = true then _ else newTuple (rawInt m.start :: rawInt m.handed :: spansOf g m) >>= fun t => newFields "re.Match" [v, .ref a, rawInt (0 : Nat), rawInt n, rawInt m.lastindex, t]) Q E s
  rw [hw, if_neg Bool.false_ne_true]
  refine wpAny_bind (wpAny_newObj_type ?_ (by show (rawInt m.start :: rawInt m.handed :: spansOf g m).toArray.size ≤ sizeLine; rw [sizeLine_eq, List.size_toArray]; simp only [List.length_cons]; omega))
  refine wpAny_newObj_type ?_ (by show [v, .ref a, rawInt (0 : Nat), rawInt n, rawInt m.lastindex, Value.ref s.heap.objs.size].toArray.size ≤ sizeLine + 2; rw [sizeLine_eq, List.size_toArray]; simp only [List.length_cons, List.length_nil]; omega)
  have e : (s.heap.push (spO (rawInt m.start :: rawInt m.handed :: spansOf g m))).objs.size = s.heap.objs.size + 1 := by rw [Heap.size_push]
  have e2 : ({ cls := .type "tuple", data := .seq (rawInt m.start :: rawInt m.handed :: spansOf g m).toArray } : Obj) = spO (rawInt m.start :: rawInt m.handed :: spansOf g m) := rfl
  rw [e2, e]
  exact h
theorem wp_answerNo {t : ReTarget} {m : Sre.M} {j : Nat} {Q : Fin → Shared → Prop} (f : Fails m j) (hj : j < 2 ^ 60) (h : Q (.done (.ret .none)) s) : wpAny M A (reAnswer t m) Q E s := by
  obtain ⟨m', ho, gs⟩ := f
  unfold reAnswer
  refine wpAny_bind (wp_runToFail gs hj ho ?_)
  exact wpAny_pure h
theorem wp_answerYes {m m' : Sre.M} {n j : Nat} {Q : Fin → Shared → Prop} (gs : Goes m m' j) (hj : j < 2 ^ 60) (ho : m'.outcome = some .matched) (hw : wrongOf g m' = false) (hs : (spansOf g m').length ≤ 1000)
    (h : Q (.done (.ret (.ref (s.heap.objs.size + 1)))) { s with heap := (s.heap.push (spO (rawInt m'.start :: rawInt m'.handed :: spansOf g m'))).push (matO v a n m'.lastindex s.heap.objs.size) }) :
    wpAny M A (reAnswer { pattern := .ref a, string := v, code := code, text := text, kind := k, groups := g, pos := 0, lim := n } m) Q E s := by
  unfold reAnswer
  refine wpAny_bind (wp_runToEnd gs hj ho fun sn => ?_)
  exact wpAny_bind (wp_newMatch hw hs (wpAny_pure h))
end
section
variable {prog : Program} {w : World} {A : Around} {E : Value → Shared → Prop} {s : Shared} {a : Addr} {v : Value} {text code : Array Nat} {g k j : Nat} {Q : Value → Shared → Prop}
theorem search_no (P : Pat s.heap a code g k) (sj : Subj v text k) (hz : text.size ≤ 16777216) (f : Fails (Sre.forSearch code text g 0 text.size false) j) (hj : j < 2 ^ 60) (h : Q .none s) : wpAny (model prog w) A (call (.builtin "re.Pattern.search") [.ref a, v]) Q E s := by
  refine call_meets (S := fun _ R s => Pat s.heap a code g k ∧ R (.ok (.ret .none)) s) slot_search P.isPat entry_search (args_search _ _) ?_ ⟨P, h⟩
  refine .of_wp fun prog w A R s hS => ?_
  unfold Builtin.«re.Pattern.search»
  refine wpAny_bind (wp_target hS.1 sj (named_search _) (by omega) ?_)
  exact wp_answerNo f hj ⟨_, rfl, hS.2⟩
theorem search_yes (P : Pat s.heap a code g k) (sj : Subj v text k) (hz : text.size ≤ 16777216) {m' : Sre.M} (gs : Goes (Sre.forSearch code text g 0 text.size false) m' j) (hj : j < 2 ^ 60) (ho : m'.outcome = some .matched) (hw : wrongOf g m' = false) (hs : (spansOf g m').length ≤ 1000)
    (h : Q (.ref (s.heap.objs.size + 1)) { s with heap := (s.heap.push (spO (rawInt m'.start :: rawInt m'.handed :: spansOf g m'))).push (matO v a text.size m'.lastindex s.heap.objs.size) }) : wpAny (model prog w) A (call (.builtin "re.Pattern.search") [.ref a, v]) Q E s := by
  refine call_meets (S := fun _ R s => Pat s.heap a code g k ∧ R (.ok (.ret (.ref (s.heap.objs.size + 1)))) { s with heap := (s.heap.push (spO (rawInt m'.start :: rawInt m'.handed :: spansOf g m'))).push (matO v a text.size m'.lastindex s.heap.objs.size) }) slot_search P.isPat entry_search (args_search _ _) ?_ ⟨P, h⟩
  refine .of_wp fun prog w A R s hS => ?_
  unfold Builtin.«re.Pattern.search»
  refine wpAny_bind (wp_target hS.1 sj (named_search _) (by omega) ?_)
  exact wp_answerYes gs hj ho hw hs ⟨_, rfl, hS.2⟩
theorem full_no (P : Pat s.heap a code g k) (sj : Subj v text k) (hz : text.size ≤ 16777216) (f : Fails (Sre.forMatch code text g 0 text.size true false) j) (hj : j < 2 ^ 60) (h : Q .none s) : wpAny (model prog w) A (call (.builtin "re.Pattern.fullmatch") [.ref a, v]) Q E s := by
  refine call_meets (S := fun _ R s => Pat s.heap a code g k ∧ R (.ok (.ret .none)) s) slot_fullmatch P.isPat entry_fullmatch (args_fullmatch _ _) ?_ ⟨P, h⟩
  refine .of_wp fun prog w A R s hS => ?_
  unfold Builtin.«re.Pattern.fullmatch»
  refine wpAny_bind (wp_target hS.1 sj (named_fullmatch _) (by omega) ?_)
  exact wp_answerNo f hj ⟨_, rfl, hS.2⟩
theorem full_yes (P : Pat s.heap a code g k) (sj : Subj v text k) (hz : text.size ≤ 16777216) {m' : Sre.M} (gs : Goes (Sre.forMatch code text g 0 text.size true false) m' j) (hj : j < 2 ^ 60) (ho : m'.outcome = some .matched) (hw : wrongOf g m' = false) (hs : (spansOf g m').length ≤ 1000)
    (h : Q (.ref (s.heap.objs.size + 1)) { s with heap := (s.heap.push (spO (rawInt m'.start :: rawInt m'.handed :: spansOf g m'))).push (matO v a text.size m'.lastindex s.heap.objs.size) }) : wpAny (model prog w) A (call (.builtin "re.Pattern.fullmatch") [.ref a, v]) Q E s := by
  refine call_meets (S := fun _ R s => Pat s.heap a code g k ∧ R (.ok (.ret (.ref (s.heap.objs.size + 1)))) { s with heap := (s.heap.push (spO (rawInt m'.start :: rawInt m'.handed :: spansOf g m'))).push (matO v a text.size m'.lastindex s.heap.objs.size) }) slot_fullmatch P.isPat entry_fullmatch (args_fullmatch _ _) ?_ ⟨P, h⟩
  refine .of_wp fun prog w A R s hS => ?_
  unfold Builtin.«re.Pattern.fullmatch»
  refine wpAny_bind (wp_target hS.1 sj (named_fullmatch _) (by omega) ?_)
  exact wp_answerYes gs hj ho hw hs ⟨_, rfl, hS.2⟩
theorem method_pattern {M : Model} {name : Str} {id : String} {pl : Sem Bool} {Q : Value × List Value → Shared → Prop} (P : Pat s.heap a code g k) (slot : Slot "re.Pattern" name id) (ty : typeOf (.builtin id) = pure (.type "method_descriptor")) (h : Q (.builtin id, [.ref a]) s) : wpAny M A (getMethod (.ref a) name pl) Q E s := by
  refine getMethod_builtin P.isPat plain_pattern slot ty (fun b e => ?_) h
  obtain ⟨o, fs, b', ot, xs, n, h1, h2, h3, h4, h5, h6, h7, h8, h9, h10⟩ := P.ex
  cases e
  exact ⟨o, h1, h3⟩
end
end

section
/-! sub and subn -/
theorem call_function : typeLookup (.type "function") "__call__" = pure (some (.builtin "function.__call__")) := by rw [typeLookup_type, builtinLookup_eq_fast]; kernel_rfl
theorem call_str : typeLookup (.type "str") "__call__" = pure none := by rw [typeLookup_type, builtinLookup_eq_fast]; kernel_rfl
theorem entry_subloop : entryFor table "re.Pattern.sub.loop" = some Builtin.«re.Pattern.sub.loop» := entryFor_of_tree (by kernel_rfl)
theorem plain_subloop : plainId "re.Pattern.sub.loop" = true := by decide +kernel
section
variable {M : Model} {A : Around} {E : Value → Shared → Prop} {s : Shared} {a : Addr} {code : Array Nat} {g : Nat} {x : Str} {t : Tok}
open Builtin.Re
noncomputable abbrev tgt (a : Addr) (x : Str) (t : Tok) (code : Array Nat) (g : Nat) : ReTarget := { pattern := .ref a, string := .str x t, code := code, text := x.cps, kind := 0, groups := g, pos := 0, lim := x.cps.size }
theorem wp_whole (P : Pat s.heap a code g 0) {Q : ReTarget → Shared → Prop} (h : Q (tgt a x t code g) s) : wpAny M A (reWholeTarget (.ref a) (.str x t)) Q E s := by
  obtain ⟨o, fs, b, ot, xs, n, h1, h2, h3, h4, h5, h6, h7, h8, h9, h10⟩ := P.ex
  unfold reWholeTarget
  refine wpAny_bind (wpAny_fieldsOf h1 h4 ?_)
  refine wpAny_bind (wpAny_of_eq (textOf_eq (.str x t)) ?_)
  dsimp only
  rw [h7, h6, h5]
  rw [if_neg (by decide), if_neg (by decide)]
  refine wpAny_bind (wpAny_of_eq (noColl_eq (.str x t)) ?_)
  refine wpAny_bind (wp_rawItems h8 h9 ?_)
  rw [h10]
  exact wpAny_pure h
theorem wp_slice {text : Array Nat} {b e : Nat} {Q : Value → Shared → Prop} (hz : text.size ≤ 16777216) (h : ∀ t' k, Q (.str ⟨text.extract b e⟩ t') { s with toks := k }) : wpAny M A (reSlice text 0 b e) Q E s := by
  unfold reSlice
  rw [if_pos (by decide)]
  refine wpAny_mkStr (h _ _) ?_
  show (text.extract b e).size ≤ _
  rw [sizeLine_eq, Array.size_extract]
  omega
end
section
variable {prog : Program} {w : World} {A : Around} {E : Value → Shared → Prop} {s : Shared} {a f : Addr} {code : Array Nat} {g j : Nat} {x : Str} {t : Tok}
open Builtin.Re
/-- what is left of the text, laid behind the pieces -/
noncomputable def restOf (x : Str) (done : Nat) : List Str := if done < x.cps.size then [⟨x.cps.extract done x.cps.size⟩] else []
theorem sub_text {α : Type} {K : Value → Sem α} {Q : α → Shared → Prop} {l : Addr} {o : Obj} {its : List Value} {ys : List Str} {m done : Nat} (hz : x.cps.size ≤ 16000000)
    (ho : s.heap.get? l = some o) (hc : o.cls = .type "list") (hd : o.data = .seq its.toArray m) (hi : StrsAre its ys) (hits : its.length ≤ 2) (hys : (ys.map (·.length)).sum ≤ 100000)
    (h : ∀ h' t' k, Heap.SameBut l s.heap h' → wpAny (model prog w) A (K (.str (Txt.join ⟨#[]⟩ (ys ++ restOf x done)) t')) Q E { s with heap := h', toks := k }) :
    wpAny (model prog w) A (do
      if done < (tgt a x t code g).lim then updateSeq l (·.push (← reSlice (tgt a x t code g).text (tgt a x t code g).kind done (tgt a x t code g).lim))
      let joiner ← reSlice (tgt a x t code g).text (tgt a x t code g).kind 0 0
      let text ← if ((← seqItems? (.ref l)).getD #[]).isEmpty then pure joiner else call (.builtin (if (tgt a x t code g).kind == 0 then "str.join" else "bytes.join")) [joiner, .ref l]
      K text) Q E s := by
  have e0 : (⟨x.cps.extract 0 0⟩ : Str) = ⟨#[]⟩ := by congr 1; simp
  have hys' : ys.length ≤ 2 := by rw [← hi.length]; exact hits
  have tail : ∀ (s' : Shared) (o' : Obj) (its' : List Value) (ys' : List Str) (m' : Nat), s'.heap.get? l = some o' → o'.cls = .type "list" → o'.data = .seq its'.toArray m' → StrsAre its' ys' → ys'.length ≤ 3 → (ys'.map (·.length)).sum ≤ 16200000 →
      (∀ t' k, wpAny (model prog w) A (K (.str (Txt.join ⟨#[]⟩ ys') t')) Q E { s' with toks := k }) →
      wpAny (model prog w) A (do
        let joiner ← reSlice (tgt a x t code g).text (tgt a x t code g).kind 0 0
        let text ← if ((← seqItems? (.ref l)).getD #[]).isEmpty then pure joiner else call (.builtin (if (tgt a x t code g).kind == 0 then "str.join" else "bytes.join")) [joiner, .ref l]
        K text) Q E s' := by
    intro s' o' its' ys' m' ho' hc' hd' hi' hl' hs' hq
    refine wpAny_bind (wp_slice (by show x.cps.size ≤ _; omega) fun t1 k1 => ?_)
    rw [e0]
    refine wpAny_bind ?_
    unfold seqItems?
    refine wpAny_bind (wpAny_load ho' ?_)
    rw [hd']
    refine wpAny_pure ?_
    dsimp only [Option.getD_some]
    cases hi' with
    | nil =>
      rw [if_pos (by rfl)]
      exact wpAny_bind (wpAny_pure (hq _ _))
    | cons y u r =>
      rw [if_neg (by simp)]
      refine wpAny_bind (join_list (x := ⟨#[]⟩) (ys := _) ⟨o', ho', hc', m', hd'⟩ (by exact .cons y u r) (by show _ + _ * 0 ≤ _; omega) fun t2 k2 => ?_)
      exact hq _ _
  by_cases hl : done < x.cps.size
  · rw [if_pos hl]
    refine wpAny_bind (wp_slice (by show x.cps.size ≤ _; omega) fun t1 k1 => ?_)
    refine wpAny_bind (wpAny_updateSeq ho hd ?_ (by rw [sizeLine_eq, List.size_toArray]; omega) (by rw [sizeLine_eq, Array.size_push, List.size_toArray]; omega))
    have hg : (s.heap.update l (Obj.mapSeq (·.push (Value.str ⟨x.cps.extract done x.cps.size⟩ t1)))).get? l = some (Obj.mapSeq (·.push (Value.str ⟨x.cps.extract done x.cps.size⟩ t1)) o) := Heap.get?_update_self _ ho (by obtain ⟨c, dd, dt, sl⟩ := o; subst hd; rfl)
    obtain ⟨m', hm'⟩ : ∃ m', (Obj.mapSeq (·.push (Value.str ⟨x.cps.extract done x.cps.size⟩ t1)) o).data = .seq (its ++ [Value.str ⟨x.cps.extract done x.cps.size⟩ t1]).toArray m' := by
      obtain ⟨c, dd, dt, sl⟩ := o; subst hd; exact ⟨_, by rw [← List.push_toArray]; rfl⟩
    refine tail _ _ (its ++ [Value.str ⟨x.cps.extract done x.cps.size⟩ t1]) (ys ++ restOf x done) m' hg ?_ hm' ?_ ?_ ?_ ?_
    · obtain ⟨c, dd, dt, sl⟩ := o; subst hd; exact hc
    · unfold restOf; rw [if_pos hl]; exact StrsAre.append' hi (.cons _ _ .nil)
    · unfold restOf; rw [if_pos hl]; simp; omega
    · unfold restOf; rw [if_pos hl]
      simp only [List.map_append, List.sum_append, List.map_cons, List.map_nil, List.sum_cons, List.sum_nil]
      show _ + ((x.cps.extract done x.cps.size).size + 0) ≤ _
      rw [Array.size_extract]; omega
    · intro t' k
      exact h _ _ _ (Heap.SameBut.update ..)
  · rw [if_neg hl]
    have e1 : ys ++ restOf x done = ys := by unfold restOf; rw [if_neg hl]; simp
    rw [e1] at h
    exact tail s o its ys m ho hc hd hi (by omega) (by omega) fun t' k => h _ _ _ (Heap.SameBut.refl ..)
noncomputable abbrev loopArgs (a : Addr) (x : Str) (t : Tok) (repl : Value) (way n done start : Int) (must : Bool) (l : Addr) (wc : Bool) : List Value :=
  [.ref a, .str x t, repl, rawInt way, rawInt 0, rawInt n, rawInt done, rawInt start, .bool must, .ref l, .bool wc]
theorem subloop_end {R : Result → Shared → Prop} {repl : Value} {way n : Int} {done start : Nat} {must wc : Bool} {l : Addr} {o : Obj} {its : List Value} {ys : List Str} {m : Nat}
    (P : Pat s.heap a code g 0) (hz : x.cps.size ≤ 16000000) (hway : way = 1 ∨ (way = 0 ∧ ∃ y u, repl = .str y u)) (fl : Fails (Sre.forSearch code x.cps g start x.cps.size must) j) (hj : j < 2 ^ 60)
    (ho : s.heap.get? l = some o) (hc : o.cls = .type "list") (hd : o.data = .seq its.toArray m) (hi : StrsAre its ys) (hits : its.length ≤ 2) (hys : (ys.map (·.length)).sum ≤ 100000)
    (h : ∀ h' t' k, Heap.SameBut l s.heap h' → if wc = true then R (.ok (.ret (.ref h'.objs.size))) { s with heap := h'.push { cls := .type "tuple", data := .seq #[.str (Txt.join ⟨#[]⟩ (ys ++ restOf x done)) t', .int n k] }, toks := k + 1 }
      else R (.ok (.ret (.str (Txt.join ⟨#[]⟩ (ys ++ restOf x done)) t'))) { s with heap := h', toks := k }) :
    codeAny (model prog w) A (.builtin "re.Pattern.sub.loop" ⟨loopArgs a x t repl way n done start must l wc, []⟩) R s := by
  refine codeAny_builtin entry_subloop ?_
  rw [Around.under_plainId plain_subloop _]
  unfold Builtin.«re.Pattern.sub.loop»
  dsimp only [loopArgs, rawInt]
  refine wpAny_bind (wp_whole P ?_)
  have main : wpAny (model prog w) A.in1 (do
      let __do_lift ← (if ((0 : Int) != 0 && decide (n ≥ 0)) = true then pure none else reNextFound (tgt a x t code g) (start : Int).toNat must)
      match __do_lift with
      | some m =>
        if (done : Int).toNat < m.start then updateSeq l (·.push (← reSlice (tgt a x t code g).text (tgt a x t code g).kind (done : Int).toNat m.start))
        let item ← if way == 0 then pure repl else do
            let found ← reNewMatch (.ref a) (.str x t) (tgt a x t code g).groups 0 (tgt a x t code g).lim m
            holding [found] (if way == 1 then call repl [found] else do reExpand repl (← reFound found))
        if item != .none then updateSeq l (·.push item)
        again (.builtin "re.Pattern.sub.loop" ⟨[.ref a, .str x t, repl, rawInt way, rawInt 0, rawInt (n + 1), rawInt m.handed, rawInt m.handed, .bool (m.handed == m.start), .ref l, .bool wc], []⟩)
      | none =>
        if (done : Int).toNat < (tgt a x t code g).lim then updateSeq l (·.push (← reSlice (tgt a x t code g).text (tgt a x t code g).kind (done : Int).toNat (tgt a x t code g).lim))
        let joiner ← reSlice (tgt a x t code g).text (tgt a x t code g).kind 0 0
        let text ← if ((← seqItems? (.ref l)).getD #[]).isEmpty then pure joiner
          else call (.builtin (if (tgt a x t code g).kind == 0 then "str.join" else "bytes.join")) [joiner, .ref l]
        if wc then ret (← holding [text] do newTuple [text, ← mkInt n]) else ret text)
      (fun fin s' => match fin with | .done f => R (.ok f) s' | .again c' => c'.quiet = true ∧ codeAny (model prog w) A c' R s') (fun e s' => R (.error e) s') s := by
    rw [if_neg (by simp)]
    unfold reNextFound
    refine wpAny_bind ?_
    obtain ⟨mf, hof, gf⟩ := fl
    refine wp_runToFail gf hj hof ?_
    dsimp only
    refine sub_text (K := fun text => do if wc then ret (← holding [text] do newTuple [text, ← mkInt n]) else ret text) hz ho hc hd hi hits hys fun h' t' k sb => ?_
    have h := h h' t' k sb
    cases wc with
    | false =>
      rw [if_neg (by decide)] at h ⊢
      exact wpAny_pure h
    | true =>
      rw [if_pos rfl] at h ⊢
      refine wpAny_bind (wpAny_holding (wpAny_bind (wpAny_mkInt (wpAny_newObj_type ?_ (by show ([_, _] : List Value).toArray.size ≤ sizeLine; rw [sizeLine_eq]; simp)))))
      exact wpAny_pure h
  rcases hway with rfl | ⟨rfl, y, u, rfl⟩
  · exact main
  · exact wpAny_bind (wpAny_of_eq rfl main)
theorem sub_none {f : Addr} {of : Obj} {Q : Value → Shared → Prop} (P : Pat s.heap a code g 0) (hz : x.cps.size ≤ 16000000) (fl : Fails (Sre.forSearch code x.cps g 0 x.cps.size false) j) (hj : j < 2 ^ 60)
    (hf : s.heap.get? f = some of) (hfc : of.cls = .type "function") (h : ∀ h' t' k, s.heap.StaysIn h' → Q (.str x t') { s with heap := h', toks := k }) :
    wpAny (model prog w) A (call (.builtin "re.Pattern.sub") [.ref a, .ref f, .str x t]) Q E s := by
  refine call_meets (S := fun _ R s => Pat s.heap a code g 0 ∧ s.heap.get? f = some of ∧ ∀ h' t' k, s.heap.StaysIn h' → R (.ok (.ret (.str x t'))) { s with heap := h', toks := k }) slot_sub P.isPat entry_sub (args_sub _ _ _) ?_ ⟨P, hf, h⟩
  intro prog w A R s hS
  obtain ⟨P, hf, h⟩ := hS
  unfold Builtin.«re.Pattern.sub» reSubstitute
  dsimp only
  rw [named_sub]
  refine wpAny_bind (wpAny_pure ?_)
  dsimp only
  refine wpAny_bind (wpAny_pure ?_)
  refine wpAny_bind (wpAny_specialOf (T := "function") ⟨of, hf, hfc⟩ call_function ?_)
  dsimp only [Option.isSome]
  rw [if_pos rfl]
  refine wpAny_bind (wpAny_pure ?_)
  rw [if_pos rfl]
  refine wpAny_bind (wpAny_pure ?_)
  dsimp only
  refine wpAny_bind (wpAny_holding (wp_whole P ?_))
  rw [if_pos (by decide)]
  refine wpAny_bind (wpAny_of_eq rfl ?_)
  refine wpAny_bind (wpAny_newObj_type ?_ (by show ([] : List Value).toArray.size ≤ sizeLine; rw [sizeLine_eq]; simp))
  refine wpAny_pure ⟨plainId_quiet plain_subloop _, ?_⟩
  refine subloop_end (its := []) (ys := []) (m := 0) (done := 0) (start := 0) (n := 0) (P.keeps fun b o e => Heap.get?_push_of_some _ e) hz (.inl rfl) fl hj (Heap.get?_push_size _ rfl) rfl rfl .nil (by decide) (by decide) fun h' t' k sb => ?_
  rw [if_neg (by decide)]
  have e : Txt.join ⟨#[]⟩ ([] ++ restOf x 0) = x := by
    obtain ⟨cps⟩ := x
    unfold restOf
    by_cases hp : 0 < cps.size
    · rw [if_pos hp]
      show (⟨cps.extract 0 cps.size⟩ : Str) = _
      rw [Array.extract_size]
    · rw [if_neg hp]
      have : cps = #[] := by apply Array.eq_empty_of_size_eq_zero; omega
      subst this; rfl
  rw [e]
  exact h _ _ _ fun b o e => by
    have hb : b ≠ s.heap.objs.size := Nat.ne_of_lt (Heap.lt_size e)
    rw [sb.2 b hb]; exact Heap.get?_push_of_some _ e
/-- one match at the head is dropped, then none is found -/
theorem subn_two {Q : Value → Shared → Prop} {u : Tok} {k j2 : Nat} {m' : Sre.M} (P : Pat s.heap a code 0 0) (hz : x.cps.size ≤ 16000000) (gs : Goes (Sre.forSearch code x.cps 0 0 x.cps.size false) m' j) (hj : j < 2 ^ 60) (ho : m'.outcome = some .matched)
    (hs : m'.start = 0) (hh : m'.handed = k) (hk : 0 < k) (hkn : k ≤ x.cps.size) (fl : Fails (Sre.forSearch code x.cps 0 k x.cps.size false) j2) (hj2 : j2 < 2 ^ 60)
    (h : ∀ h' t' t2 k', s.heap.StaysIn h' → s.heap.objs.size ≤ h'.objs.size → Q (.ref h'.objs.size) { s with heap := h'.push { cls := .type "tuple", data := .seq #[.str ⟨x.cps.extract k x.cps.size⟩ t', .int 1 t2] }, toks := k' }) :
    wpAny (model prog w) A (call (.builtin "re.Pattern.subn") [.ref a, .str (Str.ofString "") u, .str x t]) Q E s := by
  refine call_meets (S := fun _ R s => Pat s.heap a code 0 0 ∧ ∀ h' t' t2 k', s.heap.StaysIn h' → s.heap.objs.size ≤ h'.objs.size → R (.ok (.ret (.ref h'.objs.size))) { s with heap := h'.push { cls := .type "tuple", data := .seq #[.str ⟨x.cps.extract k x.cps.size⟩ t', .int 1 t2] }, toks := k' }) slot_subn P.isPat entry_subn (args_subn _ _ _) ?_ ⟨P, h⟩
  intro prog w A R s hS
  obtain ⟨P, h⟩ := hS
  unfold Builtin.«re.Pattern.subn» reSubstitute
  dsimp only
  rw [named_subn]
  refine wpAny_bind (wpAny_pure ?_)
  dsimp only
  refine wpAny_bind (wpAny_pure ?_)
  refine wpAny_bind (wpAny_specialOf (T := "str") (typeIs_str _ _ _) call_str ?_)
  dsimp only [Option.isSome]
  rw [if_neg (by decide)]
  refine wpAny_bind (wpAny_of_eq (a := some (Str.ofString "")) rfl ?_)
  dsimp only
  refine wpAny_bind (wpAny_pure ?_)
  rw [if_neg (by decide), if_pos (by decide +kernel)]
  refine wpAny_bind (wpAny_pure ?_)
  dsimp only
  refine wpAny_bind (wpAny_holding (wp_whole P ?_))
  rw [if_neg (by decide)]
  refine wpAny_bind (wpAny_newObj_type ?_ (by show ([] : List Value).toArray.size ≤ sizeLine; rw [sizeLine_eq]; simp))
  refine wpAny_pure ⟨plainId_quiet plain_subloop _, ?_⟩
  refine codeAny_builtin entry_subloop ?_
  rw [Around.under_plainId plain_subloop _]
  unfold Builtin.«re.Pattern.sub.loop»
  dsimp only [rawInt]
  refine wpAny_bind (wp_whole (P.keeps fun b o e => Heap.get?_push_of_some _ e) ?_)
  rw [if_pos (by decide)]
  refine wpAny_bind (wpAny_of_eq rfl ?_)
  rw [if_neg (by decide)]
  refine wpAny_bind ?_
  unfold reNextFound
  refine wp_runToEnd gs hj ho fun sn => ?_
  dsimp only
  rw [hs, hh, if_neg (by decide), if_pos (by decide)]
  refine wpAny_bind (wpAny_pure ?_)
  rw [if_pos (by rfl)]
  refine wpAny_bind (wpAny_updateSeq (Heap.get?_push_size _ rfl) rfl ?_ (by rw [sizeLine_eq]; simp) (by rw [sizeLine_eq]; simp))
  refine wpAny_pure ⟨plainId_quiet plain_subloop _, ?_⟩
  have hk0 : (k == 0) = false := by simp; omega
  rw [hk0]
  have hb : ∀ b o, s.heap.get? b = some o → b ≠ s.heap.objs.size := fun b o e => Nat.ne_of_lt (Heap.lt_size e)
  have su : Heap.SameBut s.heap.objs.size (s.heap.push { cls := .type "list", data := .seq [].toArray }) ((s.heap.push { cls := .type "list", data := .seq [].toArray }).update s.heap.objs.size (Obj.mapSeq fun x => x.push (.str (Str.ofString "") u))) := Heap.SameBut.update ..
  refine subloop_end (its := [.str (Str.ofString "") u]) (ys := [Str.ofString ""]) (m := 1) (done := k) (start := k) (n := 0 + 1) ?_ hz (.inr ⟨rfl, _, _, rfl⟩) fl hj2 (Heap.get?_update_self _ (Heap.get?_push_size _ rfl) rfl) rfl rfl (.cons _ _ .nil) (by simp) (by decide +kernel) fun h' t' k' sb => ?_
  · exact P.keeps fun b o e => (su.2 b (hb b o e)).trans (Heap.get?_push_of_some _ e)
  rw [if_pos rfl]
  have e : Txt.join ⟨#[]⟩ ([Str.ofString ""] ++ restOf x k) = ⟨x.cps.extract k x.cps.size⟩ := by
    unfold restOf
    by_cases hp : k < x.cps.size
    · rw [if_pos hp]
      show (⟨#[] ++ #[] ++ (x.cps.extract k x.cps.size)⟩ : Str) = _
      simp
    · rw [if_neg hp]
      have : x.cps.extract k x.cps.size = #[] := by apply Array.eq_empty_of_size_eq_zero; rw [Array.size_extract]; omega
      rw [this]; decide +kernel
  rw [e]
  refine h _ _ _ _ (fun b o e => ?_) ?_
  · exact ((sb.2 b (hb b o e)).trans (su.2 b (hb b o e))).trans (Heap.get?_push_of_some _ e)
  · have e1 := sb.1
    have e2 := su.1
    rw [Heap.size_push] at e2
    dsimp only at e1
    omega
end
end

section
/-! group and span of a match -/
section
variable {M : Model} {A : Around} {E : Value → Shared → Prop} {s : Shared} {a b : Addr} {x : Str} {t : Tok} {pat : Addr} {n : Nat} {li : Int} {vs : List Value}
open Builtin.Re
theorem wp_found {Q : ReFound → Shared → Prop} (hm : s.heap.get? a = some (matO (.str x t) pat n li b)) (hs : s.heap.get? b = some (spO vs))
    (h : Q { fields := [.str x t, .ref pat, rawInt 0, rawInt n, rawInt li, .ref b].toArray, spans := (vs.map reRawOf).toArray } s) : wpAny M A (reFound (.ref a)) Q E s := by
  unfold reFound
  refine wpAny_bind (wpAny_fieldsOf hm rfl ?_)
  refine wpAny_bind (wp_rawItems hs rfl ?_)
  refine wpAny_pure ?_
  rw [List.map_toArray]
  exact h
theorem wp_groupNo {f : ReFound} {i : Nat} {u : Tok} {Q : Nat → Shared → Prop} (hi : 2 * i < f.spans.size) (h : Q i s) : wpAny M A (reGroupNumber f (.int (i : Int) u)) Q E s := by
  unfold reGroupNumber
  refine wpAny_bind (wpAny_of_eq (a := some (i : Int)) rfl ?_)
  dsimp only [Option.isSome]
  rw [if_pos rfl]
  refine wpAny_bind (wpAny_of_eq (a := (i : Int)) rfl ?_)
  rw [if_neg (by simp; omega)]
  exact wpAny_pure h
theorem wp_groupText {f : ReFound} {g : Nat} {p q : Nat} {Q : Value → Shared → Prop} (hz : x.cps.size ≤ 16777216) (hf : f.fields.getD 0 .none = .str x t) (h1 : f.spans.getD (2 * g) (-1) = p) (h2 : f.spans.getD (2 * g + 1) (-1) = q)
    (h : ∀ t' k, Q (.str ⟨x.cps.extract p q⟩ t') { s with toks := k }) : wpAny M A (reGroupText f g .none) Q E s := by
  unfold reGroupText
  dsimp only
  rw [h1, h2, hf, if_neg (by simp)]
  refine wpAny_bind (wpAny_of_eq (textOf_eq (.str x t)) ?_)
  exact wp_slice hz h
end
section
variable {prog : Program} {w : World} {A : Around} {E : Value → Shared → Prop} {s : Shared} {a b : Addr} {x : Str} {t : Tok} {pat : Addr} {n : Nat} {li : Int} {vs : List Value}
open Builtin.Re
theorem group_1 {u : Tok} {p q p0 q0 : Nat} {Q : Value → Shared → Prop} (hm : s.heap.get? a = some (matO (.str x t) pat n li b)) (hs : s.heap.get? b = some (spO [rawInt p0, rawInt q0, rawInt p, rawInt q])) (hz : x.cps.size ≤ 16777216)
    (h : ∀ t' k, Q (.str ⟨x.cps.extract p q⟩ t') { s with toks := k }) : wpAny (model prog w) A (call (.builtin "re.Match.group") [.ref a, .int 1 u]) Q E s := by
  refine call_meets (S := fun _ R s => s.heap.get? a = some (matO (.str x t) pat n li b) ∧ s.heap.get? b = some (spO [rawInt p0, rawInt q0, rawInt p, rawInt q]) ∧ ∀ t' k, R (.ok (.ret (.str ⟨x.cps.extract p q⟩ t'))) { s with toks := k }) slot_group ⟨_, hm, rfl⟩ entry_group (args_group _ _) ?_ ⟨hm, hs, h⟩
  refine .of_wp fun prog w A R s hS => ?_
  obtain ⟨hm, hs, h⟩ := hS
  unfold Builtin.«re.Match.group»
  refine wpAny_bind (wpAny_of_eq rfl ?_)
  dsimp only
  refine wpAny_bind (wp_found hm hs ?_)
  refine wpAny_bind (wp_groupNo (i := 1) (by simp) ?_)
  refine wpAny_bind (wp_groupText (x := x) (t := t) (p := p) (q := q) hz rfl rfl rfl fun t' k => ?_)
  exact wpAny_pure ⟨_, rfl, h _ _⟩
theorem span_0 {u : Tok} {p0 q0 : Nat} {r : List Value} {Q : Value → Shared → Prop} (hm : s.heap.get? a = some (matO (.str x t) pat n li b)) (hs : s.heap.get? b = some (spO (rawInt p0 :: rawInt q0 :: r)))
    (h : ∀ t1 t2 k, Q (.ref s.heap.objs.size) { s with heap := s.heap.push { cls := .type "tuple", data := .seq [.int p0 t1, .int q0 t2].toArray }, toks := k }) : wpAny (model prog w) A (call (.builtin "re.Match.span") [.ref a, .int 0 u]) Q E s := by
  refine call_meets (S := fun _ R s => s.heap.get? a = some (matO (.str x t) pat n li b) ∧ s.heap.get? b = some (spO (rawInt p0 :: rawInt q0 :: r)) ∧ ∀ t1 t2 k, R (.ok (.ret (.ref s.heap.objs.size))) { s with heap := s.heap.push { cls := .type "tuple", data := .seq [.int p0 t1, .int q0 t2].toArray }, toks := k }) slot_span ⟨_, hm, rfl⟩ entry_span (args_span _ _) ?_ ⟨hm, hs, h⟩
  refine .of_wp fun prog w A R s hS => ?_
  obtain ⟨hm, hs, h⟩ := hS
  unfold Builtin.«re.Match.span»
  refine wpAny_bind ?_
  unfold reOneGroup
  refine wpAny_bind (wpAny_of_eq (a := (Value.ref a, [Value.int 0 u])) rfl ?_)
  dsimp only
  refine wpAny_bind (wp_found hm hs ?_)
  refine wpAny_bind (wp_groupNo (i := 0) (by simp) ?_)
  refine wpAny_pure ?_
  dsimp only
  refine wpAny_bind (wpAny_mkInt ?_)
  refine wpAny_bind (wpAny_mkInt ?_)
  refine wpAny_bind (wpAny_newObj_type ?_ (by show ([_, _] : List Value).toArray.size ≤ sizeLine; rw [sizeLine_eq]; simp))
  exact wpAny_pure ⟨_, rfl, h _ _ _⟩
theorem method_match {M : Model} {name : Str} {id : String} {pl : Sem Bool} {Q : Value × List Value → Shared → Prop} (hm : s.heap.get? a = some (matO (.str x t) pat n li b)) (slot : Slot "re.Match" name id) (ty : typeOf (.builtin id) = pure (.type "method_descriptor")) (h : Q (.builtin id, [.ref a]) s) : wpAny M A (getMethod (.ref a) name pl) Q E s := by
  refine getMethod_builtin (v := .ref a) ⟨_, hm, rfl⟩ plain_match slot ty (fun b e => ?_) h
  cases e
  exact ⟨_, hm, rfl⟩
end
end

/-! the same with a frame and a ledger -/
section
variable {prog : Program} {w : World} {M : Model} {A : Around} {E : Value → Shared → Prop} {s : Shared} {h₀ : Heap} {L a b f pa : Addr} {m : Str → Option Value} {news : List (Addr × Obj)} {x : Str} {t u : Tok} {n j g k : Nat} {li : Int} {code text : Array Nat} {v : Value} {Q : Value → Shared → Prop}
theorem lt_news (N : News h₀ L s.heap news) : ∀ p ∈ news, p.1 < s.heap.objs.size := fun p hp => Heap.lt_size (N p hp).1
theorem span_K {p0 q0 : Nat} {r : List Value} (F : Fr h₀ L s.heap m) (N : News h₀ L s.heap news) (hm : (a, matO (.str x t) pa n li b) ∈ news) (hs : (b, spO (rawInt p0 :: rawInt q0 :: r)) ∈ news)
    (h : ∀ T h' t1 t2 k, Fr h₀ L h' m → News h₀ L h' ((T, ({ cls := .type "tuple", data := .seq [.int p0 t1, .int q0 t2].toArray } : Obj)) :: news) → (∀ p ∈ news, p.1 < T) → Q (.ref T) { s with heap := h', toks := k }) :
    wpAny (model prog w) A (call (.builtin "re.Match.span") [.ref a, .int 0 u]) Q E s :=
  span_0 (N.get hm) (N.get hs) fun t1 t2 k => h _ _ t1 t2 k (F.push _) (N.push F _) (lt_news N)
theorem group_K {p q p0 q0 : Nat} (N : News h₀ L s.heap news) (hm : (a, matO (.str x t) pa n li b) ∈ news) (hs : (b, spO [rawInt p0, rawInt q0, rawInt p, rawInt q]) ∈ news) (hz : x.cps.size ≤ 16777216)
    (h : ∀ t' k, Q (.str ⟨x.cps.extract p q⟩ t') { s with toks := k }) : wpAny (model prog w) A (call (.builtin "re.Match.group") [.ref a, .int 1 u]) Q E s :=
  group_1 (N.get hm) (N.get hs) hz h
theorem matchmeth_K {name : Str} {id : String} {pl : Sem Bool} {Q : Value × List Value → Shared → Prop} (N : News h₀ L s.heap news) (hm : (a, matO (.str x t) pa n li b) ∈ news) (slot : Slot "re.Match" name id) (ty : typeOf (.builtin id) = pure (.type "method_descriptor")) (h : Q (.builtin id, [.ref a]) s) : wpAny M A (getMethod (.ref a) name pl) Q E s :=
  method_match (N.get hm) slot ty h
theorem search_K (F : Fr h₀ L s.heap m) (N : News h₀ L s.heap news) (P : Pat s.heap pa code g k) (sj : Subj v text k) (hz : text.size ≤ 16777216) {m' : Sre.M} (gs : Goes (Sre.forSearch code text g 0 text.size false) m' j) (hj : j < 2 ^ 60) (ho : m'.outcome = some .matched) (hw : wrongOf g m' = false) (hs : (spansOf g m').length ≤ 1000)
    (h : ∀ a b h', Fr h₀ L h' m → News h₀ L h' ((a, matO v pa text.size m'.lastindex b) :: (b, spO (rawInt m'.start :: rawInt m'.handed :: spansOf g m')) :: news) → (∀ p ∈ news, p.1 < b) → b < a → Q (.ref a) { s with heap := h' }) :
    wpAny (model prog w) A (call (.builtin "re.Pattern.search") [.ref pa, v]) Q E s := by
  refine search_yes P sj hz gs hj ho hw hs ?_
  have e : (s.heap.push (spO (rawInt m'.start :: rawInt m'.handed :: spansOf g m'))).objs.size = s.heap.objs.size + 1 := by rw [Heap.size_push]
  have N1 := N.push F (spO (rawInt m'.start :: rawInt m'.handed :: spansOf g m'))
  have F1 := F.push (spO (rawInt m'.start :: rawInt m'.handed :: spansOf g m'))
  have N2 := N1.push F1 (matO v pa text.size m'.lastindex s.heap.objs.size)
  rw [e] at N2
  exact h _ _ _ (F1.push _) N2 (lt_news N) (Nat.lt_succ_self _)
theorem full_K (F : Fr h₀ L s.heap m) (N : News h₀ L s.heap news) (P : Pat s.heap pa code g k) (sj : Subj v text k) (hz : text.size ≤ 16777216) {m' : Sre.M} (gs : Goes (Sre.forMatch code text g 0 text.size true false) m' j) (hj : j < 2 ^ 60) (ho : m'.outcome = some .matched) (hw : wrongOf g m' = false) (hs : (spansOf g m').length ≤ 1000)
    (h : ∀ a b h', Fr h₀ L h' m → News h₀ L h' ((a, matO v pa text.size m'.lastindex b) :: (b, spO (rawInt m'.start :: rawInt m'.handed :: spansOf g m')) :: news) → (∀ p ∈ news, p.1 < b) → b < a → Q (.ref a) { s with heap := h' }) :
    wpAny (model prog w) A (call (.builtin "re.Pattern.fullmatch") [.ref pa, v]) Q E s := by
  refine full_yes P sj hz gs hj ho hw hs ?_
  have e : (s.heap.push (spO (rawInt m'.start :: rawInt m'.handed :: spansOf g m'))).objs.size = s.heap.objs.size + 1 := by rw [Heap.size_push]
  have N1 := N.push F (spO (rawInt m'.start :: rawInt m'.handed :: spansOf g m'))
  have F1 := F.push (spO (rawInt m'.start :: rawInt m'.handed :: spansOf g m'))
  have N2 := N1.push F1 (matO v pa text.size m'.lastindex s.heap.objs.size)
  rw [e] at N2
  exact h _ _ _ (F1.push _) N2 (lt_news N) (Nat.lt_succ_self _)
theorem Fr.onStays {h h' : Heap} (F : Fr h₀ L h m) (st : h.StaysIn h') : Fr h₀ L h' m := by
  obtain ⟨oL, es, ep, hL, r⟩ := F.ns
  exact ⟨⟨oL, es, ep, st _ _ hL, r⟩, fun b o e => st _ _ (F.keep b o e), F.above⟩
theorem News.onStays {h h' : Heap} (N : News h₀ L h news) (st : h.StaysIn h') : News h₀ L h' news := fun p hp => ⟨st _ _ (N p hp).1, (N p hp).2⟩
theorem sub_K {of : Obj} (F : Fr h₀ L s.heap m) (N : News h₀ L s.heap news) (P : Pat s.heap pa code g 0) (hz : x.cps.size ≤ 16000000) (fl : Fails (Sre.forSearch code x.cps g 0 x.cps.size false) j) (hj : j < 2 ^ 60)
    (hf : (f, of) ∈ news) (hfc : of.cls = .type "function") (h : ∀ h' t' k, Fr h₀ L h' m → News h₀ L h' news → Q (.str x t') { s with heap := h', toks := k }) :
    wpAny (model prog w) A (call (.builtin "re.Pattern.sub") [.ref pa, .ref f, .str x t]) Q E s :=
  sub_none P hz fl hj (N.get hf) hfc fun h' t' k st => h h' t' k (Fr.onStays F st) (News.onStays N st)
theorem subn_K {k j2 : Nat} {m' : Sre.M} (F : Fr h₀ L s.heap m) (N : News h₀ L s.heap news) (P : Pat s.heap pa code 0 0) (hz : x.cps.size ≤ 16000000) (gs : Goes (Sre.forSearch code x.cps 0 0 x.cps.size false) m' j) (hj : j < 2 ^ 60) (ho : m'.outcome = some .matched)
    (hs : m'.start = 0) (hh : m'.handed = k) (hk : 0 < k) (hkn : k ≤ x.cps.size) (fl : Fails (Sre.forSearch code x.cps 0 k x.cps.size false) j2) (hj2 : j2 < 2 ^ 60)
    (h : ∀ T h' t' t2 k', Fr h₀ L h' m → News h₀ L h' ((T, ({ cls := .type "tuple", data := .seq [.str ⟨x.cps.extract k x.cps.size⟩ t', .int 1 t2].toArray } : Obj)) :: news) → (∀ p ∈ news, p.1 < T) → Q (.ref T) { s with heap := h', toks := k' }) :
    wpAny (model prog w) A (call (.builtin "re.Pattern.subn") [.ref pa, .str (Str.ofString "") u, .str x t]) Q E s :=
  subn_two P hz gs hj ho hs hh hk hkn fl hj2 fun h' t' t2 k' st hsz => by
    have F' := Fr.onStays F st
    exact h _ _ t' t2 k' (F'.push _) ((News.onStays N st).push F' _) fun p hp => Nat.lt_of_lt_of_le (lt_news N p hp) hsz
end
theorem words_w_re6_1 : True := by
  k_with "call builtin:re.Match.span" => ((refine span_K (by k_asm) (by k_asm) (by k_mem) (by k_mem) ?_); intro _ _ _ _ _ _ _ l1; (try k_lt l1))
  k_with "call builtin:re.Match.group" => ((refine group_K (by k_asm) (by k_mem) (by k_mem) (by walk_at "c_size") ?_); intro _ _)
  k_with "getMethod ref" => ((with_reducible show wpAny _ _ (getMethod (Value.ref _) (Str.ofString "span") _) _ _ _); (refine matchmeth_K (by k_asm) (by k_mem) slot_span type_span ?_))
  k_with "getMethod ref" => ((with_reducible show wpAny _ _ (getMethod (Value.ref _) (Str.ofString "group") _) _ _ _); (refine matchmeth_K (by k_asm) (by k_mem) slot_group type_group ?_))
  trivial

/-! the attribute 'string' of a match; its truth -/
theorem lk_string : typeLookup (.type "re.Match") "string" = pure (some (.builtin "re.Match.string")) := by rw [typeLookup_type, builtinLookup_eq_fast]; kernel_rfl
theorem typeOf_string : typeOf (.builtin "re.Match.string") = pure (.type "member_descriptor") := by kernel_rfl
theorem slot_md_get : Slot "member_descriptor" "__get__" "member_descriptor.__get__" :=
  .of (owner := "member_descriptor") (n := "__get__") (by rw [typeLookup_type, builtinLookup_eq_fast]; kernel_rfl) (by decide +kernel) (by decide +kernel) (by decide +kernel)
    (by first | exact .inl (by decide +kernel) | exact .inr (by decide +kernel)) (by rw [isSubtype_type]; kernel_rfl)
theorem slot_md_set : Slot "member_descriptor" "__set__" "member_descriptor.__set__" :=
  .of (owner := "member_descriptor") (n := "__set__") (by rw [typeLookup_type, builtinLookup_eq_fast]; kernel_rfl) (by decide +kernel) (by decide +kernel) (by decide +kernel)
    (by first | exact .inl (by decide +kernel) | exact .inr (by decide +kernel)) (by rw [isSubtype_type]; kernel_rfl)
theorem entry_md_get : entryFor table "member_descriptor.__get__" = some Builtin.«member_descriptor.__get__» := entryFor_of_tree (by kernel_rfl)
theorem args_md_get (a b c : Value) : argsOk "member_descriptor.__get__" ⟨[a, b, c], []⟩ := by unfold argsOk; kernel_rfl
theorem entry_string : entryFor table "re.Match.string" = some Builtin.«re.Match.string» := entryFor_of_tree (by kernel_rfl)
theorem owner_string : (".".intercalate ("re.Match.string".cutAt '.').dropLast) = "re.Match" := by
  have e0 : "re.Match.string".cutAt '.' = ["re", "Match", "string"] := by first | rfl | decide +kernel
  rw [e0]; decide +kernel
theorem sub_string_owner : isSubtype (.type "re.Match") (.type (".".intercalate ("re.Match.string".cutAt '.').dropLast)) = pure true := by
  rw [owner_string, isSubtype_type]; kernel_rfl
theorem slot_match_ga : Slot "re.Match" "__getattribute__" "object.__getattribute__" :=
  .of (owner := "object") (n := "__getattribute__") (by rw [typeLookup_type, builtinLookup_eq_fast]; kernel_rfl) (by decide +kernel) (by decide +kernel) (by decide +kernel)
    (by first | exact .inl (by decide +kernel) | exact .inr (by decide +kernel)) (by rw [isSubtype_type]; kernel_rfl)
theorem entry_object_ga : entryFor table "object.__getattribute__" = some Builtin.«object.__getattribute__» := entryFor_of_tree (by kernel_rfl)
theorem args_object_ga (a b : Value) : argsOk "object.__getattribute__" ⟨[a, b], []⟩ := by unfold argsOk; kernel_rfl
section
variable {prog : Program} {w : World} {A : Around} {E : Value → Shared → Prop} {h : Heap} {g : Array GenState} {d : Drawn} {t : Nat} {os : OsState} {a : Addr} {o : Obj} {fs : Array Value} {v : Value}
theorem string_get {R : Result → Shared → Prop} (hx : h.get? a = some o) (hc : o.cls = .type "re.Match") (hd : o.data = .fields fs) (hv : fs[0]? = some v) (hq : R (.ok (.ret v)) ⟨h, g, d, t, os⟩) :
    codeAny (model prog w) A (.call (.builtin "member_descriptor.__get__") ⟨[.builtin "re.Match.string", .ref a, .type "re.Match"], []⟩) R ⟨h, g, d, t, os⟩ := by
  have hT : (⟨h, g, d, t, os⟩ : Shared).TypeIs (.ref a) "re.Match" := ⟨_, hx, hc⟩
  have hT5 : (⟨h, g, d, t, os⟩ : Shared).TypeIs (.builtin "re.Match.string") "member_descriptor" := typeOf_string
  have f8 := sub_string_owner
  refine codeAny_call_builtin slot_md_get.plain entry_md_get (slot_md_get.check _ _ _ _ _ _ _ _ hT5 (args_md_get _ _ _) ?_)
  repeat (any_goals (first | assumption | wp_step))
  refine ⟨Code.quiet_builtin _ (by decide +kernel), codeAny_builtin entry_string ?_⟩
  exact wpAny_bind (wpAny_field hx hd hv (wpAny_pure hq))
theorem string_entry {tk : Tok} {Q : Fin → Shared → Prop} (hx : h.get? a = some o) (hc : o.cls = .type "re.Match") (hd : o.data = .fields fs) (hv : fs[0]? = some v) (hq : Q (.done (.ret v)) ⟨h, g, d, t, os⟩) :
    wpAny (model prog w) A (Builtin.«object.__getattribute__» ⟨[.ref a, .str "string" tk], []⟩) Q E ⟨h, g, d, t, os⟩ := by
  have hT : (⟨h, g, d, t, os⟩ : Shared).TypeIs (.ref a) "re.Match" := ⟨_, hx, hc⟩
  have hT5 : (⟨h, g, d, t, os⟩ : Shared).TypeIs (.builtin "re.Match.string") "member_descriptor" := typeOf_string
  have f4 := lk_string
  have f5 := typeOf_string
  have f6 := slot_md_get.lookup
  have f7 := slot_md_set.lookup
  repeat (any_goals (first | assumption | wp_step))
  refine string_get hx hc hd hv ?_
  repeat (any_goals (first | assumption | wp_step))
theorem string_call {tk : Tok} {R : Result → Shared → Prop} (hx : h.get? a = some o) (hc : o.cls = .type "re.Match") (hd : o.data = .fields fs) (hv : fs[0]? = some v) (hq : R (.ok (.ret v)) ⟨h, g, d, t, os⟩) :
    codeAny (model prog w) A (.call (.builtin "object.__getattribute__") ⟨[.ref a, .str "string" tk], []⟩) R ⟨h, g, d, t, os⟩ :=
  codeAny_call_builtin slot_match_ga.plain entry_object_ga (slot_match_ga.check _ _ _ _ _ _ _ _ (show (⟨h, g, d, t, os⟩ : Shared).TypeIs (.ref a) "re.Match" from ⟨_, hx, hc⟩) (args_object_ga _ _) (string_entry hx hc hd hv hq))
theorem string_attr {x : Str} {u : Tok} {Q : Value → Shared → Prop} (hx : h.get? a = some o) (hc : o.cls = .type "re.Match") (hd : o.data = .fields fs) (hv : fs[0]? = some (.str x u)) (hq : Q (.str x u) ⟨h, g, d, t + 1, os⟩) : wpAny (model prog w) A (getAttr (.ref a) "string" true) Q E ⟨h, g, d, t, os⟩ := by
  have hT : (⟨h, g, d, t, os⟩ : Shared).TypeIs (.ref a) "re.Match" := ⟨_, hx, hc⟩
  have hT1 : (⟨h, g, d, t + 1, os⟩ : Shared).TypeIs (.ref a) "re.Match" := ⟨_, hx, hc⟩
  have f2 := slot_match_ga.lookup
  have f3 := slot_match_ga.bind (.ref a)
  unfold getAttr
  repeat (any_goals (first | assumption | wp_step))
  refine string_call hx hc hd hv ?_
  repeat (any_goals (first | assumption | wp_step))
end
section
variable {prog : Program} {w : World} {M : Model} {A : Around} {E : Value → Shared → Prop} {s : Shared} {h₀ : Heap} {L a b pa : Addr} {m : Str → Option Value} {news : List (Addr × Obj)} {x : Str} {t : Tok} {n : Nat} {li : Int}
theorem string_K {Q : Value → Shared → Prop} (N : News h₀ L s.heap news) (hm : (a, matO (.str x t) pa n li b) ∈ news) (h : ∀ k, Q (.str x t) { s with toks := k }) : wpAny (model prog w) A (getAttr (.ref a) "string" true) Q E s :=
  string_attr (N.get hm) rfl rfl rfl (h _)
theorem match_bool : typeLookup (.type "re.Match") "__bool__" = pure none := by rw [typeLookup_type, builtinLookup_eq_fast]; kernel_rfl
theorem match_len : typeLookup (.type "re.Match") "__len__" = pure none := by rw [typeLookup_type, builtinLookup_eq_fast]; kernel_rfl
theorem truthy_K {Q : Bool → Shared → Prop} (N : News h₀ L s.heap news) (hm : (a, matO (.str x t) pa n li b) ∈ news) (h : Q true s) : wpAny (model prog w) A (truthy (.ref a)) Q E s := by
  have hT : s.TypeIs (.ref a) "re.Match" := ⟨_, N.get hm, rfl⟩
  unfold truthy
  refine wpAny_bind ?_
  unfold callSpecial?
  refine wpAny_bind (wpAny_specialOf hT match_bool ?_)
  refine wpAny_pure ?_
  dsimp only
  refine wpAny_bind (wpAny_specialOf hT match_len ?_)
  exact wpAny_pure h
end
theorem words_w_re7_1 : True := by
  k_with "getAttr ref" => ((with_reducible show wpAny _ _ (getAttr (Value.ref _) (Str.ofString "string") _) _ _ _); (refine string_K (by k_asm) (by k_mem) ?_); intro _)
  k_with "truthy ref" => ((refine truthy_K (by k_asm) (by k_mem) ?_))
  trivial

section
open PySem.Builtin.Str in
theorem sliceFrom (x : Str) (q : Nat) (h : q ≤ x.cps.size) : Txt.slice x (some (q : Int)) none = ⟨x.cps.extract q x.cps.size⟩ := by
  rw [PyProof.Rows.slice_from_eq (b := x.length) (by omega) (by show (q : Int) ≤ (x.cps.size : Int); omega) rfl]
  congr 1
  apply Array.ext'
  simp only [Array.toList_extract, List.extract_eq_take_drop]
  show List.take ((x.cps.size : Int) - (q : Int)).toNat (List.drop (q : Int).toNat x.cps.toList) = _
  congr 1 <;> omega
open PySem.Builtin PySem.Builtin.Str in
theorem sliceZero (x : Str) : Txt.slice x none (some 0) = ⟨#[]⟩ := by
  have e : strSliceIndices none (some 0) 1 x.length = [] := by
    unfold strSliceIndices sliceRange
    simp
    split <;> omega
  unfold Txt.slice
  rw [e]
  by_cases hl : ((1 : Int) == 1 && ([] : List Nat).length == x.length) = true
  · rw [if_pos hl]
    have : x.cps.size = 0 := by
      have h2 : 0 = x.length := by simpa using hl
      exact h2.symm
    obtain ⟨cps⟩ := x
    congr 1
    exact Array.eq_empty_of_size_eq_zero this
  · rw [if_neg hl]; rfl
theorem slice_0 (x : Str) (q : Nat) (h : q ≤ x.cps.size) : Txt.slice x none (some (0 : Nat)) ++ Txt.slice x (some (q : Int)) none = ⟨x.cps.extract q x.cps.size⟩ := by
  rw [sliceFrom x q h, show ((0 : Nat) : Int) = 0 from rfl, sliceZero]
  show (⟨#[] ++ _⟩ : Str) = _
  simp
theorem cps_sz (l : List Int) : (sz l).cps = (l.map Int.toNat).toArray := rfl
theorem csize_sz (l : List Int) : (sz l).cps.size = l.length := by simp [cps_sz]
theorem ext_sz (l : List Int) (p q : Nat) : (⟨(sz l).cps.extract p q⟩ : Str) = sz ((l.drop p).take (q - p)) := by
  unfold sz
  congr 1
  apply Array.ext'
  simp [List.map_drop, List.map_take]
theorem getD_sz (l : List Int) (p : Nat) : (sz l).cps.getD p 0 = (l.getD p 0).toNat := by
  rw [cps_sz, Array.getD_eq_getD_getElem?, List.getD_eq_getElem?_getD]
  simp only [List.getElem?_toArray, List.getElem?_map]
  cases l[p]? <;> rfl
/-- all of a list, to its end -/
theorem lead_all {P : Nat → Bool} {l : List Int} : ∀ (r p : Nat), p + r = l.length → (∀ c ∈ l.drop p, P c.toNat = true) → lead P (sz l).cps r p = r
  | 0, p, _, _ => rfl
  | r + 1, p, hp, h => by
    have hlt : p < l.length := by omega
    have h1 : P ((sz l).cps.getD p 0) = true := by
      rw [getD_sz, List.getD_eq_getElem?_getD, List.getElem?_eq_getElem hlt]
      exact h _ (by rw [List.drop_eq_getElem_cons hlt]; exact .head _)
    unfold lead
    rw [h1, if_pos rfl, lead_all r (p + 1) (by omega) fun c hc => h c (by rw [List.drop_eq_getElem_cons hlt]; exact .tail _ hc)]
/-- a stretch, and behind it a sign that does not go -/
theorem lead_to {P : Nat → Bool} {text : Array Nat} : ∀ (k n p : Nat), k ≤ n → (∀ i, i < k → P (text.getD (p + i) 0) = true) → (n = k ∨ P (text.getD (p + k) 0) = false) → lead P text n p = k
  | 0, n, p, _, _, h => by
    rcases h with rfl | h
    · rfl
    · exact lead_none h
  | k + 1, 0, p, hk, _, _ => by omega
  | k + 1, n + 1, p, hk, h1, h2 => by
    unfold lead
    rw [if_pos (by simpa using h1 0 (by omega)), lead_to k n (p + 1) (by omega) (fun i hi => by have := h1 (i + 1) (by omega); rwa [show p + 1 + i = p + (i + 1) by omega]) (by rcases h2 with h2 | h2; (· exact .inl (by omega)); exact .inr (by rwa [show p + 1 + k = p + (k + 1) by omega]))]
end

section
/-- a sign of a value that needs no care -/
noncomputable def Vs (c : Int) : Prop := 33 ≤ c ∧ c < 127 ∧ c ≠ 34 ∧ c ≠ 92 ∧ c ≠ 59 ∧ c ≠ 44
noncomputable def Vl (v : List Int) : Prop := ∀ c ∈ v, Vs c
/-- a key's sign -/
noncomputable def Ks (c : Int) : Prop := 97 ≤ c ∧ c ≤ 122
theorem space_lt {c : Nat} (h : c < 128) : Unicode.isSpace c = ((9 ≤ c && c ≤ 13) || (28 ≤ c && c ≤ 32)) := isSpace_128 ⟨c, h⟩
theorem space_no {c : Nat} (h : 33 ≤ c) (h2 : c < 128) : Unicode.isSpace c = false := by
  rw [space_lt h2]
  simp; omega
theorem vs_space {c : Int} (h : Vs c) : Unicode.isSpace c.toNat = false := by obtain ⟨h1, h2, _⟩ := h; exact space_no (by omega) (by omega)
theorem vs_tokStop {c : Int} (h : Ks c) : tokStop c.toNat = false := by
  obtain ⟨h1, h2⟩ := h
  unfold tokStop
  rw [space_no (by omega) (by omega)]
  simp; omega
theorem vs_valStop {c : Int} (h : Vs c) : valStop c.toNat = false := by
  unfold valStop
  rw [vs_space h]
  obtain ⟨h1, h2, h3, h4, h5, h6⟩ := h
  simp; omega
theorem vs_quoStop {c : Int} (h : Vs c) : quoStop c.toNat = false := by
  obtain ⟨h1, h2, h3, h4, h5, h6⟩ := h
  unfold quoStop
  simp; omega
theorem as_hc {l : List Int} (h : As l) : ∀ p, (sz l).cps.getD p 0 < 128 := fun p => by
  rw [getD_sz, List.getD_eq_getElem?_getD]
  cases e : l[p]? with
  | none => decide
  | some c => have := h c (List.mem_of_getElem? e); simp; omega
/-- key, then a stop -/
theorem tok_one {k d : Int} {r : List Int} (hk : Ks k) (hd : tokStop d.toNat = true) (ha : As (k :: d :: r)) (hz : (k :: d :: r).length ≤ 100000) :
    Goes (Sre.forSearch cTOKEN (sz (k :: d :: r)).cps 1 0 (sz (k :: d :: r)).cps.size false) (won cTOKEN (sz (k :: d :: r)).cps (k :: d :: r).length (k :: d :: r).length 1 #[some 0, some 1] 1 1) 20 := by
  rw [csize_sz]
  have e0 : (sz (k :: d :: r)).cps.getD 0 0 = k.toNat := by rw [getD_sz]; rfl
  have e1 : (sz (k :: d :: r)).cps.getD 1 0 = d.toNat := by rw [getD_sz]; rfl
  obtain ⟨h1, h2⟩ := hk
  have h := token_yes' (text := (sz (k :: d :: r)).cps) (n := (k :: d :: r).length) (j := 0) (k := 1) (as_hc ha) (by omega) (lead_to 0 _ 0 (by omega) (fun i hi => by omega) (.inr (by rw [e0]; exact space_no (by omega) (by omega)))) (by omega)
    (lead_to 1 _ 0 (by simp) (fun i hi => by obtain rfl : i = 0 := by omega
                                             rw [e0, vs_tokStop ⟨h1, h2⟩]; rfl) (.inr (by rw [e1, hd]; rfl))) (by decide) (by simp) (by simp)
  simpa using h
theorem tok_space_one {k d : Int} {r : List Int} (hk : Ks k) (hd : tokStop d.toNat = true) (ha : As (32 :: k :: d :: r)) (hz : (32 :: k :: d :: r).length ≤ 100000) :
    Goes (Sre.forSearch cTOKEN (sz (32 :: k :: d :: r)).cps 1 0 (sz (32 :: k :: d :: r)).cps.size false) (won cTOKEN (sz (32 :: k :: d :: r)).cps (32 :: k :: d :: r).length (32 :: k :: d :: r).length 2 #[some 1, some 2] 1 1) 20 := by
  rw [csize_sz]
  have e0 : (sz (32 :: k :: d :: r)).cps.getD 0 0 = 32 := by rw [getD_sz]; rfl
  have e1 : (sz (32 :: k :: d :: r)).cps.getD 1 0 = k.toNat := by rw [getD_sz]; rfl
  have e2 : (sz (32 :: k :: d :: r)).cps.getD 2 0 = d.toNat := by rw [getD_sz]; rfl
  obtain ⟨h1, h2⟩ := hk
  have hsp : Unicode.isSpace 32 = true := by decide +kernel
  have g1 : lead Unicode.isSpace (sz (32 :: k :: d :: r)).cps (32 :: k :: d :: r).length 0 = 1 := lead_to 1 _ 0 (by simp) (fun i hi => by
    obtain rfl : i = 0 := by omega
    rw [e0]; exact hsp) (.inr (by rw [e1]; exact space_no (by omega) (by omega)))
  have g2 : lead (fun c => !tokStop c) (sz (32 :: k :: d :: r)).cps ((32 :: k :: d :: r).length - 1) 1 = 1 := lead_to 1 _ 1 (by simp) (fun i hi => by
    obtain rfl : i = 0 := by omega
    rw [e1, vs_tokStop ⟨h1, h2⟩]; rfl) (.inr (by rw [e2, hd]; rfl))
  exact token_yes' (text := (sz (32 :: k :: d :: r)).cps) (n := (32 :: k :: d :: r).length) (j := 1) (k := 1) (as_hc ha) (by omega) g1 (by simp) g2 (by decide) (by simp) (by simp)
theorem tok_none {d : Int} {r : List Int} (hd : tokStop d.toNat = true) (hs : Unicode.isSpace d.toNat = false) (ha : As (d :: r)) (hz : (d :: r).length ≤ 100000) :
    Fails (Sre.forSearch cTOKEN (sz (d :: r)).cps 1 0 (sz (d :: r)).cps.size false) 300000 := by
  rw [csize_sz]
  have e0 : (sz (d :: r)).cps.getD 0 0 = d.toNat := by rw [getD_sz]; rfl
  exact (token_no (as_hc ha) (by omega) (by rw [e0]; exact hs) (by rw [e0]; exact hd) (by simp)).mono (by omega)
theorem quo_one {v : List Int} (hv : Vl v) (hz : v.length ≤ 99990) :
    Goes (Sre.forSearch cQUOTED (sz (61 :: 34 :: v ++ [34])).cps 1 0 (sz (61 :: 34 :: v ++ [34])).cps.size false) (won cQUOTED (sz (61 :: 34 :: v ++ [34])).cps (v.length + 3) (v.length + 1) (3 + v.length) #[some 2, some (2 + v.length)] 1 1) 30 := by
  rw [csize_sz]
  have en : (61 :: 34 :: v ++ [34]).length = v.length + 3 := by simp
  rw [en]
  have h := quoted_yes (text := (sz (61 :: 34 :: v ++ [34])).cps) (n := v.length + 3) (k := v.length) (by omega) (by rw [getD_sz]; rfl) (by rw [getD_sz]; rfl)
    (lead_to v.length _ 2 (by omega) (fun i hi => by
      rw [getD_sz, List.getD_eq_getElem?_getD, show 2 + i = i + 2 by omega]
      simp only [List.cons_append, List.getElem?_cons_succ]
      rw [List.getElem?_append_left hi, List.getElem?_eq_getElem hi]
      simp only [Option.getD_some]
      rw [vs_quoStop (hv _ (List.getElem_mem hi))]; rfl) (.inr (by
      rw [getD_sz, List.getD_eq_getElem?_getD, show 2 + v.length = v.length + 2 by omega]
      simp only [List.cons_append, List.getElem?_cons_succ]
      rw [List.getElem?_append_right (by omega)]
      simp [quoStop]))) (by
      rw [getD_sz, List.getD_eq_getElem?_getD, show 2 + v.length = v.length + 2 by omega]
      simp only [List.cons_append, List.getElem?_cons_succ]
      rw [List.getElem?_append_right (by omega)]
      simp) (by omega)
  have e3 : max 0 (v.length + 3 - 2) = v.length + 1 := by omega
  rw [e3] at h
  exact h
theorem quo_none {d : Int} {r : List Int} (h1 : Unicode.isSpace d.toNat = false) (h0 : d ≠ 61 ∨ (d = 61 ∧ ∀ c ∈ r.head?, Vs c)) (h0' : 0 ≤ d) (hz : (d :: r).length ≤ 100000) :
    Fails (Sre.forSearch cQUOTED (sz (d :: r)).cps 1 0 (sz (d :: r)).cps.size false) 300000 := by
  rw [csize_sz]
  have e0 : (sz (d :: r)).cps.getD 0 0 = d.toNat := by rw [getD_sz]; rfl
  refine (quoted_no (by omega) (by rw [e0]; exact h1) ?_).mono (by omega)
  rw [e0]
  rcases h0 with h0 | ⟨rfl, h0⟩
  · exact .inl (by omega)
  · refine .inr ⟨rfl, ?_⟩
    rw [getD_sz]
    cases r with
    | nil => exact ⟨by decide +kernel, by decide⟩
    | cons c r =>
      have hc : Vs c := h0 c (by simp)
      have h3 := vs_space hc
      obtain ⟨h4, h5, h6, _⟩ := hc
      exact ⟨h3, by show c.toNat ≠ 34; omega⟩
theorem val_one {v : List Int} (hv : Vl v) (hz : v.length ≤ 99990) :
    Goes (Sre.forSearch cVALUE (sz (61 :: v)).cps 1 0 (sz (61 :: v)).cps.size false) (won cVALUE (sz (61 :: v)).cps (v.length + 1) (v.length + 1) (1 + v.length) #[some 1, some (1 + v.length)] 1 1) 25 := by
  rw [csize_sz]
  have en : (61 :: v).length = v.length + 1 := by simp
  rw [en]
  exact value_yes (by omega) (by rw [getD_sz]; rfl) (by
    rw [getD_sz]
    cases v with
    | nil => decide +kernel
    | cons c r => exact vs_space (hv c (by simp))) (lead_all _ 1 (by simp; omega) fun c hc => by rw [vs_valStop (hv c (by simpa using hc))]; rfl) (by omega)
theorem val_none {d : Int} {r : List Int} (h1 : Unicode.isSpace d.toNat = false) (h0 : d ≠ 61) (h0' : 0 ≤ d) (hz : (d :: r).length ≤ 100000) :
    Fails (Sre.forSearch cVALUE (sz (d :: r)).cps 1 0 (sz (d :: r)).cps.size false) 300000 := by
  rw [csize_sz]
  have e0 : (sz (d :: r)).cps.getD 0 0 = d.toNat := by rw [getD_sz]; rfl
  exact (value_no (by omega) (by rw [e0]; omega) (by rw [e0]; exact h1) (by simp)).mono (by omega)
theorem getD_of {P : Nat → Prop} {v : List Int} (h : ∀ c ∈ v, P c.toNat) : ∀ p, p < (sz v).cps.size → P ((sz v).cps.getD p 0) := fun p hp => by
  rw [csize_sz] at hp
  rw [getD_sz, List.getD_eq_getElem?_getD, List.getElem?_eq_getElem hp]
  exact h _ (List.getElem_mem hp)
theorem esc_v {v : List Int} (hv : Vl v) (hz : v.length ≤ 100000) : Fails (Sre.forSearch cESC (sz v).cps 1 0 (sz v).cps.size false) 300000 := by
  refine (esc_none (getD_of (P := fun c => c ≠ 92) fun c hc => ?_)).mono (by rw [csize_sz]; omega)
  obtain ⟨h1, h2, h3, h4, _⟩ := hv c hc; omega
theorem jesc_v {v : List Int} (hv : Vl v) : Fails (Sre.forSearch cJESC (sz v).cps 1 0 (sz v).cps.size false) 1 := by
  refine jesc_none (getD_of (P := fun c => c ≠ 34 ∧ c ≠ 92) fun c hc => ?_)
  obtain ⟨h1, h2, h3, h4, _⟩ := hv c hc; omega
/-- a value that stands bare -/
noncomputable def bareV (v : List Int) : Bool := decide (v ≠ []) && v.all fun c => jtok c.toNat
theorem lead_lt {P : Nat → Bool} {l : List Int} : ∀ (r p : Nat), p + r = l.length → lead P (sz l).cps r p = r → ∀ c ∈ l.drop p, P c.toNat = true
  | 0, p, hp, _, c, hc => by rw [List.drop_eq_nil_of_le (by omega)] at hc; cases hc
  | r + 1, p, hp, h, c, hc => by
    have hlt : p < l.length := by omega
    unfold lead at h
    have hg : (sz l).cps.getD p 0 = (l[p]).toNat := by rw [getD_sz, List.getD_eq_getElem?_getD, List.getElem?_eq_getElem hlt]; rfl
    rw [hg] at h
    by_cases hP : P (l[p]).toNat = true
    · rw [if_pos hP] at h
      rw [List.drop_eq_getElem_cons hlt] at hc
      rcases List.mem_cons.mp hc with rfl | hc
      · exact hP
      · exact lead_lt r (p + 1) (by omega) (by omega) c hc
    · rw [if_neg hP] at h; omega
theorem jtok_bare {v : List Int} (h : bareV v = true) (hz : v.length ≤ 100000) : Goes (Sre.forMatch cJTOK (sz v).cps 0 0 (sz v).cps.size true false) { jst (sz v).cps v.length 5 v.length v.length [] 0 (some true) with outcome := some .matched } 10 := by
  unfold bareV at h
  simp only [Bool.and_eq_true, decide_eq_true_eq, List.all_eq_true] at h
  have hl : 1 ≤ v.length := by have := List.length_pos_iff.mpr h.1; omega
  rw [csize_sz]
  exact jtok_yes (by omega) hl (lead_all _ 0 (by simp) fun c hc => h.2 c (by simpa using hc))
theorem jtok_care {v : List Int} (h : bareV v = false) (hz : v.length ≤ 100000) : Fails (Sre.forMatch cJTOK (sz v).cps 0 0 (sz v).cps.size true false) 300000 := by
  rw [csize_sz]
  refine (jtok_no (by omega) ?_).mono (by omega)
  by_cases hv : v = []
  · exact .inl (by simp [hv])
  · refine .inr fun e => ?_
    have := lead_lt _ 0 (by simp) e
    have : bareV v = true := by
      unfold bareV
      simp only [Bool.and_eq_true, decide_eq_true_eq, List.all_eq_true]
      exact ⟨hv, fun c hc => this c (by simpa using hc)⟩
    rw [this] at h; cases h
/-- "; " is dropped -/
theorem junk_two {k : Int} {r : List Int} (hk : Ks k) (hz : (59 :: 32 :: k :: r).length ≤ 100000) :
    Goes (Sre.forSearch cTWIN7 (sz (59 :: 32 :: k :: r)).cps 0 0 (sz (59 :: 32 :: k :: r)).cps.size false) (won cTWIN7 (sz (59 :: 32 :: k :: r)).cps (59 :: 32 :: k :: r).length (59 :: 32 :: k :: r).length 2 #[] (-1) (-1)) 20 := by
  rw [csize_sz]
  obtain ⟨h1, h2⟩ := hk
  refine twin7_yes (by omega) (lead_to 2 _ 0 (by simp) (fun i hi => ?_) (.inr ?_))
  · obtain rfl | rfl : i = 0 ∨ i = 1 := by omega
    · rw [getD_sz]; show junk 59 = true; decide +kernel
    · rw [getD_sz]; show junk 32 = true; decide +kernel
  · rw [getD_sz]
    show junk k.toNat = false
    unfold junk
    rw [space_no (by omega) (by omega)]
    simp; omega
theorem junk_next {l : List Int} (hz : l.length ≤ 100000) (h2 : 2 ≤ l.length) : Fails (Sre.forSearch cTWIN7 (sz l).cps 0 2 (sz l).cps.size false) 300000 := by
  rw [csize_sz]
  exact (twin7_no (by decide) h2).mono (by omega)
theorem hexC_in {d : Int} (h0 : 0 ≤ d) (h1 : d < 16) : (48 ≤ hexC d ∧ hexC d ≤ 57) ∨ (65 ≤ hexC d ∧ hexC d ≤ 70) := by unfold hexC; split <;> omega
theorem enc16_in {ks : List Int} (hk : Oct ks) : ∀ c ∈ enc16 ks, (48 ≤ c ∧ c ≤ 57) ∨ (65 ≤ c ∧ c ≤ 70) := by
  intro c hc
  unfold enc16 at hc
  obtain ⟨o, ho, hc⟩ := List.mem_flatMap.mp hc
  have := hk o ho
  simp only [List.mem_cons, List.not_mem_nil, or_false] at hc
  rcases hc with rfl | rfl
  · exact hexC_in (by omega) (by omega)
  · exact hexC_in (by omega) (by omega)
theorem hex_sign {ks : List Int} (hk : Oct ks) : ∀ p, p < ((bz (enc16 ks)).map (·.toNat)).size → (48 ≤ ((bz (enc16 ks)).map (·.toNat)).getD p 0 ∧ ((bz (enc16 ks)).map (·.toNat)).getD p 0 ≤ 57) ∨ (65 ≤ ((bz (enc16 ks)).map (·.toNat)).getD p 0 ∧ ((bz (enc16 ks)).map (·.toNat)).getD p 0 ≤ 70) := by
  intro p hp
  have hp' : p < (enc16 ks).length := by simpa [bz] using hp
  have hm := enc16_in hk _ (List.getElem_mem hp')
  have e : ((bz (enc16 ks)).map (·.toNat)).getD p 0 = ((enc16 ks)[p]).toNat.toUInt8.toNat := by
    simp [bz, Array.getD_eq_getD_getElem?, hp']
  rw [e]
  have e2 : ((enc16 ks)[p]).toNat.toUInt8.toNat = ((enc16 ks)[p]).toNat := by
    show ((enc16 ks)[p]).toNat % 256 = _
    omega
  rw [e2]
  omega
theorem vl_as {v : List Int} (hv : Vl v) : As v := fun c hc => by obtain ⟨h1, h2, _⟩ := hv c hc; omega
theorem vl_as2 {v : List Int} (hv : Vl v) : As (34 :: (v ++ [34])) := fun c hc => by
  simp only [List.mem_cons, List.mem_append, List.not_mem_nil, or_false] at hc
  rcases hc with rfl | hc | rfl
  · omega
  · exact vl_as hv c hc
  · omega
end

section
open PySem.Builtin PySem.Builtin.Str in
theorem lstrip_id {d : Int} {r : List Int} (h : Unicode.isSpace d.toNat = false) : Txt.lstrip (sz (d :: r)) = sz (d :: r) := by
  obtain ⟨h0, h1, h2⟩ := lo_facts Unicode.isSpace (sz (d :: r))
  have hlo : stripLo Unicode.isSpace true (sz (d :: r)) = 0 := by
    by_cases hp : 0 < stripLo Unicode.isSpace true (sz (d :: r))
    · have := h1 0 hp
      rw [getD_sz] at this
      rw [show ((d :: r).getD 0 0) = d from rfl, h] at this; cases this
    · omega
  unfold Txt.lstrip
  rw [PyProof.Rows.stripBy_eq, hlo]
  show (⟨(sz (d :: r)).cps.extract 0 (sz (d :: r)).cps.size⟩ : Str) = _
  rw [Array.extract_size]
open PySem.Builtin PySem.Builtin.Str in
theorem rstrip_id {v : List Int} (hv : Vl v) : Txt.rstrip (sz v) = sz v := by
  obtain ⟨_, h0, h1, h2⟩ := hi_facts Unicode.isSpace (sz v) 0 (Nat.zero_le _)
  have hl : (sz v).length = v.length := csize_sz v
  have hhi : stripHi Unicode.isSpace true (sz v) 0 = (sz v).length := by
    by_cases hp : stripHi Unicode.isSpace true (sz v) 0 < (sz v).length
    · have := h1 _ (Nat.le_refl _) hp
      have := (getD_of (P := fun c => Unicode.isSpace c = false) (v := v) fun c hc => vs_space (hv c hc)) (stripHi Unicode.isSpace true (sz v) 0) hp
      simp_all
    · omega
  unfold Txt.rstrip
  rw [PyProof.Rows.stripBy_eq]
  show strSub (sz v) 0 (stripHi Unicode.isSpace true (sz v) 0) = _
  rw [hhi]
  show (⟨(sz v).cps.extract 0 (sz v).cps.size⟩ : Str) = _
  rw [Array.extract_size]
theorem starts_comma {d : Int} {r : List Int} (h0 : 0 ≤ d) : Txt.startswith (sz (d :: r)) (Str.ofString ",") = decide (d = 44) := by
  have hc : (Str.ofString ",") = sz [44] := by decide +kernel
  rw [hc]
  unfold Txt.startswith Builtin.Str.subAt
  have e1 : (sz [44]).length = 1 := csize_sz _
  have e2 : (sz (d :: r)).length = r.length + 1 := csize_sz _
  rw [e1, e2]
  have e3 : (sz (d :: r)).cps.extract 0 (0 + 1) = #[d.toNat] := by
    have := ext_sz (d :: r) 0 1
    exact congrArg Str.cps this
  rw [e3]
  show (decide (0 + 1 ≤ r.length + 1) && (#[d.toNat] == #[(44 : Nat)])) = _
  by_cases hd : d = 44
  · subst hd; simp
  · have : ¬ d.toNat = 44 := by omega
    simp [hd, this]
section
variable {prog : Program} {w : World} {A : Around} {E : Value → Shared → Prop} {s : Shared} {t u : Tok} {Q : Value → Shared → Prop} {d : Int} {r v : List Int}
theorem k_lstrip (hs : Unicode.isSpace d.toNat = false) (hz : (d :: r).length ≤ 100000) (h : ∀ t' k, Q (.str (sz (d :: r)) t') { s with toks := k }) : wpAny (model prog w) A (call (.builtin "str.lstrip") [.str (sz (d :: r)) t]) Q E s :=
  SC.lstrip (fun t' k => by rw [lstrip_id hs]; exact h t' k) (by rw [show (sz (d :: r)).length = (d :: r).length from csize_sz _, sizeLine_eq]; omega)
theorem k_rstrip (hv : Vl v) (hz : v.length ≤ 100000) (h : ∀ t' k, Q (.str (sz v) t') { s with toks := k }) : wpAny (model prog w) A (call (.builtin "str.rstrip") [.str (sz v) t]) Q E s :=
  SC.rstrip (fun t' k => by rw [rstrip_id hv]; exact h t' k) (by rw [show (sz v).length = v.length from csize_sz _, sizeLine_eq]; omega)
theorem k_starts (h0 : 0 ≤ d) (h : Q (.bool (decide (d = 44))) s) : wpAny (model prog w) A (call (.builtin "str.startswith") [.str (sz (d :: r)) t, .str (Str.ofString ",") u]) Q E s :=
  SC.startswith (by rw [starts_comma h0]; exact h)
theorem k_truthyT {c : Int} {Q : Bool → Shared → Prop} (hz : (c :: r).length ≤ 100000) (h : ∀ k, Q true { s with toks := k }) : wpAny (model prog w) A (truthy (.str (sz (c :: r)) t)) Q E s := by
  have e : (sz (c :: r)).length = (c :: r).length := csize_sz _
  refine P.truthy_str (by rw [e]; omega) ?_
  have e2 : (((sz (c :: r)).length : Int) != 0) = true := by rw [e]; simp; omega
  rw [e2]; exact h _
theorem k_truthyF {Q : Bool → Shared → Prop} (h : ∀ k, Q false { s with toks := k }) : wpAny (model prog w) A (truthy (.str (sz []) t)) Q E s :=
  P.truthy_str (by rw [show (sz []).length = 0 from csize_sz _]; decide) (h _)
theorem slice_1 (d : Int) (r : List Int) : Txt.slice (sz (d :: r)) (some 1) none = sz r := by
  have := sliceFrom (sz (d :: r)) 1 (by rw [csize_sz]; simp)
  rw [show (some (1 : Int)) = some ((1 : Nat) : Int) from rfl, this, ext_sz, csize_sz]
  congr 1
  simp
end
end

/-! a lambda that may have been made before -/
noncomputable def TabOk (pos : Pos) (ps : Array Value) : Prop := ps = #[] ∨ ∃ c' : Addr, ps = #[rawInt pos.line, rawInt pos.col, .ref c']
theorem updF_same {P : Addr} {o : Obj} {news : List (Addr × Obj)} {g : Obj → List (Addr × Obj)} (U : UpdF P o news g) : (P, o) ∈ news ∧ g o = news := by
  obtain ⟨pre, post, h1, h2, _, _⟩ := U.split
  exact ⟨by rw [h1]; simp, by rw [h1, h2]⟩
theorem lam_any {M : Model} {A : Around} {E : Value → Shared → Prop} {s : Shared} {h₀ : Heap} {L a c P : Addr} {m mg mb : Str → Option Value} {cn : Str} {cs : Scope} {ccd : Value} {cl : List (Str × Addr)} {news : List (Addr × Obj)} {g : Obj → List (Addr × Obj)}
    {p : Program} {loose : List Str} {mean : ExcName → Option Value} {name qual : Str} {params : Arguments} {body : Expr} {scope : Scope} {ps : Array Value} {pos : Pos} {firstLine : Nat} {clos : List (Str × Addr)} {Q : Value → Shared → Prop}
    (F : Fr h₀ L s.heap m) (N : News h₀ L s.heap news) (T : Top p loose mean mg mb h₀) (C : CodeHd h₀ c P) (hcd : ccd = .ref c) (U : UpdF P (tabObj ps) news g) (hps : TabOk pos ps)
    (hcl : closureFor scope (envX cn cs L a ccd cl) = pure clos)
    (h : ∀ f o ps' h' tk, TabOk pos ps' → o.cls = .type "function" → Fr h₀ L h' m → News h₀ L h' ((f, o) :: g (tabObj ps')) → (∀ q ∈ news, q.1 < f) → Q (.ref f) { s with heap := h', toks := tk }) :
    wpAny M A (makeFunction name qual params (.expr body) scope (envX cn cs L a ccd cl) [] [] [] pos firstLine) Q E s := by
  rcases hps with rfl | ⟨c', rfl⟩
  · refine kla_nest F N T C hcd U trivial rfl hcl fun f c' oc vs t ctv h' tk F' N' d1 d2 l1 l2 => ?_
    refine h f (kla_obj name qual params body scope clos ((mg "__name__").getD .none) c' ctv) _ h' tk (.inr ⟨c', rfl⟩) rfl F' (fun q hq => N' q ?_) fun q hq => Nat.lt_trans (l1 q hq) l2
    rcases List.mem_cons.mp hq with rfl | hq
    · exact .head _
    · exact .tail _ (.tail _ hq)
  · obtain ⟨hm, hg⟩ := updF_same U
    refine kla_hit (c' := c') F N T C hcd hm (by simp [TriplesOk, rawInt]) (by simp [codeAmong, rawInt]) hcl fun f ctv h' tk F' N' l1 => ?_
    exact h f _ _ h' tk (.inr ⟨c', rfl⟩) rfl F' (by rw [hg]; exact N') l1
theorem append_meth {M : Model} {A : Around} {E : Value → Shared → Prop} {s : Shared} {h₀ : Heap} {L D : Addr} {news : List (Addr × Obj)} {its : Array Value} {n : Nat} {pl : Sem Bool} {Q : Value × List Value → Shared → Prop} (N : News h₀ L s.heap news) (hm : (D, listOf its n) ∈ news)
    (h : Q (.builtin "list.append", [.ref D]) s) : wpAny M A (getMethod (.ref D) "append" pl) Q E s := getMethod_list_append (N.get hm) rfl rfl h
theorem words_w_lam_1 : True := by
  k_with "getMethod ref" => ((with_reducible show wpAny _ _ (getMethod (Value.ref _) (Str.ofString "append") _) _ _ _); (refine append_meth (by k_asm) (by k_mem) ?_))
  k_with "eval Lambda" => ((refine kla_eval rfl ?_); (refine lam_any (by k_asm) (by k_asm) (by k_asm) (by with_reducible assumption) rfl (by k_updF) (by with_reducible assumption) rfl ?_); intro _ _ _ _ _ _ _ _ N' l1; (try dsimp only at N'); (try k_lt l1))
  k_with "call builtin:re.Pattern.sub" => (refine sub_K (by k_asm) (by k_asm) (by walk_at "c_pat") (by walk_at "c_size") (by walk_at "c_fails") (by decide) (by k_mem) (by with_reducible assumption) ?_; intro _ _ _ _ _)
  trivial

section
/-! a loop over a range or a written list, its ledger free from turn to turn -/
section
variable {prog : Program} {w : World} {A : Around} {E : Value → Shared → Prop} {s : Shared} {env : Env} {h₀ : Heap} {x : Str} {body : List Stmt} {Q : Flow → Shared → Prop}
noncomputable def PostJ (h₀ : Heap) (L : Addr) (hd : List (Addr × Obj)) (J : (Str → Option Value) → List (Addr × Obj) → Prop) (s₁ : Shared) (Q : Flow → Shared → Prop) (f : Flow) (s₂ : Shared) : Prop :=
  match f with
  | .ret v => Q (.ret v) s₂
  | .brk => Q .next s₂
  | _ => ∃ h' tk m' nx, s₂ = { s₁ with heap := h', toks := tk } ∧ Fr h₀ L h' m' ∧ News h₀ L h' (hd ++ nx) ∧ (∀ p ∈ nx, ∀ q ∈ hd, p.1 ≠ q.1) ∧ J m' nx
theorem forJ_range {r : Addr} {a₀ b₀ : Int} {t₀ u₀ v₀ : Tok} {n : Nat} {m₀ : Str → Option Value} {news : List (Addr × Obj)} (J : Nat → (Str → Option Value) → List (Addr × Obj) → Prop)
    (hh : A.handled = none) (hr : IsRange s.heap r a₀ b₀ 1 t₀ u₀ v₀) (hsmall : Builtin.Range.small a₀ b₀ 1 = true) (hn : Builtin.Range.rangeSize a₀ b₀ 1 = (n : Int)) (F : Fr h₀ env.locals s.heap m₀) (N : News h₀ env.locals s.heap news) (hj : J 0 m₀ news)
    (turn : ∀ (i : Nat) t m₁ news₁ I it h tk, i < n → J i m₁ news₁ → (∀ p ∈ news₁, p.1 ≠ I) → Fr h₀ env.locals h (fun y => if y = x then some (.int (a₀ + (i : Int)) t) else m₁ y) → News h₀ env.locals h ((I, it) :: news₁) →
      wpAny (model prog w) A (execs body env) (PostJ h₀ env.locals [(I, it)] (J (i + 1)) { s with heap := h, toks := tk } Q) E { s with heap := h, toks := tk })
    (done : ∀ m₁ news₁ h tk, J n m₁ news₁ → Fr h₀ env.locals h m₁ → News h₀ env.locals h news₁ → Q .next { s with heap := h, toks := tk }) :
    wpAny (model prog w) A (pyIter (.ref r)) (fun it s₂ => LoopAtV prog w A h₀ env x body Q E it s₂) E s := by
  refine wpAny_pyIter_range hr hsmall ?_
  have W : Walks prog w A s.heap.objs.size [s.heap.objs.size] [s.heap.objs.size] n (fun i v => i < n ∧ ∃ t, v = .int (a₀ + i * 1) t)
      (fun i h => IsRangeIter h s.heap.objs.size (a₀ + (i : Nat) * 1) ((n : Int) - (i : Nat)) 1) := (Walks.range hh _ a₀ 1 n).bound
  refine ⟨_, _, _, n, _, _, m₀, news, J, rfl, W, ?_, ?_, ?_, (by show IsRangeIter _ _ _ _ _; rw [hn]; simpa using Heap.get?_push_size _ rfl), F.push _, (fun p hp => ⟨Heap.get?_push_of_some _ (N p hp).1, (N p hp).2⟩), hj, ?_, ?_⟩
  · intro hm
    exact absurd F.ns.lt ((List.mem_singleton.mp hm) ▸ Nat.lt_irrefl _)
  · intro b hb
    rw [List.mem_singleton.mp hb]
    exact next_is_new F
  · intro p hp hI
    exact absurd (Heap.lt_size (N p hp).1) ((List.mem_singleton.mp hI) ▸ Nat.lt_irrefl _)
  · rintro i v m₁ news₁ s₁ own ⟨hh', tk', rfl⟩ hin ⟨_, t, rfl⟩ hJ hoff hown howng hfp hst F₁ N₁
    have e1 : a₀ + (i : Int) * 1 = a₀ + (i : Int) := by omega
    rw [e1] at F₁
    have hst' : ∃ o, hh'.get? s.heap.objs.size = some o := ⟨_, hst⟩
    obtain ⟨o, ho⟩ := hst'
    have hmem := hfp s.heap.objs.size (.head _) (next_is_new F) o ho
    have hall : ∀ p ∈ own, p = (s.heap.objs.size, o) := fun p hp => by
      have h1 := List.mem_singleton.mp (hown p hp)
      have h2 := howng p hp
      rw [h1] at h2
      have h3 : some o = some p.2 := ho.symm.trans h2
      cases h3
      obtain ⟨a, b⟩ := p
      cases h1; rfl
    refine wpAny_mono (turn i t m₁ news₁ s.heap.objs.size o hh' tk' hin hJ (fun p hp e => hoff p hp (by rw [e]; exact .head _)) F₁ (fun p hp => by
      rcases List.mem_cons.mp hp with rfl | hp
      · exact N₁ _ (List.mem_append_left _ hmem)
      · exact N₁ _ (List.mem_append_right _ hp))) (fun f s₂ p => ?_) fun _ _ e => e
    have fin : (∃ h' tk m' nx, s₂ = { s with heap := h', toks := tk } ∧ Fr h₀ env.locals h' m' ∧ News h₀ env.locals h' ([(s.heap.objs.size, o)] ++ nx) ∧ (∀ p ∈ nx, ∀ q ∈ [(s.heap.objs.size, o)], p.1 ≠ q.1) ∧ J (i + 1) m' nx) →
        LoopStepU h₀ env.locals [s.heap.objs.size] own (J (i + 1)) { s with heap := hh', toks := tk' } .next s₂ := by
      rintro ⟨h', tk, m', nx, e, F', N', hne, hJ'⟩
      refine ⟨rfl, h', tk, m', nx, e, F', fun p hp => ?_, fun p hp hq => hne p hp _ (.head _) (List.mem_singleton.mp hq), hJ'⟩
      rcases List.mem_append.mp hp with hp | hp
      · rw [hall p hp]; exact N' _ (.head _)
      · exact N' _ (.tail _ hp)
    cases f with
    | ret v => exact .ret p
    | brk => exact .brk p
    | next => exact .next (fin p)
    | cont => exact .cont (fin p)
  · rintro h' tk m' news' F' N' _ hJ
    exact done m' news' h' tk hJ F' N'
theorem forJ_list {l : Addr} {vs : List Value} {ns : List Int} {nn : Nat} {m₀ : Str → Option Value} {news : List (Addr × Obj)} (J : Nat → (Str → Option Value) → List (Addr × Obj) → Prop)
    (hh : A.handled = none) (hi : IntsAre vs ns) (F : Fr h₀ env.locals s.heap m₀) (N : News h₀ env.locals s.heap ((l, listOf vs.toArray nn) :: news)) (hj : J 0 m₀ news)
    (turn : ∀ (i : Nat) k t m₁ news₁ I it h tk, ns[i]? = some k → J i m₁ news₁ → (∀ p ∈ news₁, p.1 ≠ I) → Fr h₀ env.locals h (fun y => if y = x then some (.int k t) else m₁ y) → News h₀ env.locals h ((I, it) :: (l, listOf vs.toArray nn) :: news₁) →
      wpAny (model prog w) A (execs body env) (PostJ h₀ env.locals [(I, it), (l, listOf vs.toArray nn)] (J (i + 1)) { s with heap := h, toks := tk } Q) E { s with heap := h, toks := tk })
    (done : ∀ m₁ news₁ h tk, J ns.length m₁ news₁ → Fr h₀ env.locals h m₁ → News h₀ env.locals h news₁ → Q .next { s with heap := h, toks := tk }) :
    wpAny (model prog w) A (pyIter (.ref l)) (fun it s₂ => LoopAtV prog w A h₀ env x body Q E it s₂) E s := by
  have hol : s.heap.get? l = some (listOf vs.toArray nn) := (N _ (.head _)).1
  have hls : s.heap.IsList l vs.toArray := ⟨_, hol, rfl, nn, rfl⟩
  have hne : l ≠ s.heap.objs.size := Nat.ne_of_lt (Heap.lt_size hol)
  refine wpAny_pyIter_list hls ?_
  have W := Walks.list (prog := prog) (w := w) hh s.heap.objs.size l hne vs.toArray
  have hlen : vs.toArray.size = ns.length := by simp [hi.length]
  rw [hlen] at W
  refine ⟨_, _, _, ns.length, _, _, m₀, (l, listOf vs.toArray nn) :: news, (fun i m nx => ∃ nx', nx = (l, listOf vs.toArray nn) :: nx' ∧ J i m nx'), rfl, W, ?_, ?_, ?_, ⟨⟨_, Heap.get?_push_size _ rfl, rfl, rfl⟩, hls.at fun o e => Heap.get?_push_of_some _ e⟩, F.push _, (fun p hp => ⟨Heap.get?_push_of_some _ (N p hp).1, (N p hp).2⟩), ⟨news, rfl, hj⟩, ?_, ?_⟩
  · intro hm
    rcases List.mem_cons.mp hm with e | hm
    · exact absurd F.ns.lt (e ▸ Nat.lt_irrefl _)
    · exact (N _ (.head _)).2.1 ((List.mem_singleton.mp hm).symm)
  · intro b hb
    rw [List.mem_singleton.mp hb]
    exact next_is_new F
  · intro p hp hI
    exact absurd (Heap.lt_size (N p hp).1) ((List.mem_singleton.mp hI) ▸ Nat.lt_irrefl _)
  · rintro i v m₁ news₁ s₁ own ⟨hh', tk', rfl⟩ hin hP ⟨nx₁, rfl, hJ⟩ hoff hown hget hfp hst F₁ N₁
    have hlt' : i < ns.length := hin
    obtain ⟨t, hx⟩ := hi.get i ns[i] (by simp [hlt'])
    have hv : v = .int ns[i] t := by
      have hP' : vs[i]? = some v := by simpa using hP
      rw [hx] at hP'; exact (Option.some.inj hP').symm
    subst hv
    have hlo : hh'.get? l = some (listOf vs.toArray nn) := (N₁ _ (List.mem_append_right _ (.head _))).1
    have hst' : ∃ o, hh'.get? s.heap.objs.size = some o := by
      obtain ⟨⟨o, ho, _⟩, _⟩ := hst
      exact ⟨o, ho⟩
    obtain ⟨o, ho⟩ := hst'
    have hmem := hfp s.heap.objs.size (.head _) (next_is_new F) o ho
    have hall : ∀ p ∈ own, p = (s.heap.objs.size, o) ∨ p = (l, listOf vs.toArray nn) := fun p hp => by
      have h2 := hget p hp
      rcases List.mem_cons.mp (hown p hp) with h1 | h1
      · rw [h1] at h2
        have h3 : some o = some p.2 := ho.symm.trans h2
        cases h3
        obtain ⟨a, b⟩ := p
        cases h1; exact .inl rfl
      · have h1 := List.mem_singleton.mp h1
        rw [h1] at h2
        have h3 : some (listOf vs.toArray nn) = some p.2 := hlo.symm.trans h2
        obtain ⟨a, b⟩ := p
        cases h1
        cases h3; exact .inr rfl
    refine wpAny_mono (turn i ns[i] t m₁ nx₁ s.heap.objs.size o hh' tk' (by simp [hlt']) hJ (fun p hp e => hoff p (.tail _ hp) (by rw [e]; exact .head _)) F₁ (fun p hp => by
      rcases List.mem_cons.mp hp with rfl | hp
      · exact N₁ _ (List.mem_append_left _ hmem)
      · exact N₁ _ (List.mem_append_right _ hp))) (fun f s₂ p => ?_) fun _ _ e => e
    have fin : (∃ h' tk m' nx, s₂ = { s with heap := h', toks := tk } ∧ Fr h₀ env.locals h' m' ∧ News h₀ env.locals h' ([(s.heap.objs.size, o), (l, listOf vs.toArray nn)] ++ nx) ∧ (∀ p ∈ nx, ∀ q ∈ [(s.heap.objs.size, o), (l, listOf vs.toArray nn)], p.1 ≠ q.1) ∧ J (i + 1) m' nx) →
        LoopStepU h₀ env.locals [s.heap.objs.size] own (fun m nx => ∃ nx', nx = (l, listOf vs.toArray nn) :: nx' ∧ J (i + 1) m nx') { s with heap := hh', toks := tk' } .next s₂ := by
      rintro ⟨h', tk, m', nx, e, F', N', hne', hJ'⟩
      refine ⟨rfl, h', tk, m', (l, listOf vs.toArray nn) :: nx, e, F', fun p hp => ?_, fun p hp hq => ?_, ⟨nx, rfl, hJ'⟩⟩
      · rcases List.mem_append.mp hp with hp | hp
        · rcases hall p hp with rfl | rfl
          · exact N' _ (.head _)
          · exact N' _ (.tail _ (.head _))
        · rcases List.mem_cons.mp hp with rfl | hp
          · exact N' _ (.tail _ (.head _))
          · exact N' _ (.tail _ (.tail _ hp))
      · have hq := List.mem_singleton.mp hq
        rcases List.mem_cons.mp hp with rfl | hp
        · exact hne hq
        · exact hne' p hp _ (.head _) hq
    cases f with
    | ret v => exact .ret p
    | brk => exact .brk p
    | next => exact .next (fin p)
    | cont => exact .cont (fin p)
  · rintro h' tk m' news' F' N' _ ⟨nx', rfl, hJ⟩
    exact done m' nx' h' tk hJ F' fun p hp => N' p (.tail _ hp)
end
end

section
/-! plain int expressions, tests and simple statements, each in one step -/
section
variable {prog : Program} {w : World} {A : Around} {E : Value → Shared → Prop} {h₀ : Heap} {m : Str → Option Value} {env : Env}
structure EvI (prog : Program) (w : World) (A : Around) (E : Value → Shared → Prop) (h₀ : Heap) (m : Str → Option Value) (env : Env) (e : Expr) (v : Int) : Prop where
  run : ∀ (Q : Value → Shared → Prop) (s : Shared), Fr h₀ env.locals s.heap m → (∀ t k, Q (.int v t) { s with toks := k }) → wpAny (model prog w) A (eval e env) Q E s
theorem EvI.name {x : Str} {pos : Pos} {v : Int} {t : Tok} (hv : m x = some (.int v t)) (hx : env.kindOf x = some .local) (hk : env.scope.kind = .function) (hd : (x == ("__debug__" : Str)) = false) : EvI prog w A E h₀ m env (.Name x pos) v :=
  ⟨fun _ s F h => wpAny_Name (wpAny_loadName_local hk hx F.ns hv (h t s.toks)) hd⟩
theorem EvI.lit {n : Int} {k : Nat} {pos : Pos} : EvI prog w A E h₀ m env (.Constant (.int n) k pos) n := ⟨fun _ s _ h => wpAny_Constant_int (h _ _)⟩
theorem EvI.bin {l r : Expr} {op : Operator} {pos : Pos} {a b c : Int} (ho : ∀ (Q : Value → Shared → Prop) (s : Shared) t u, Q (.int c s.toks) { s with toks := s.toks + 1 } → wpAny (model prog w) A (binaryOp op (.int a t) (.int b u)) Q E s)
    (ha : EvI prog w A E h₀ m env l a) (hb : EvI prog w A E h₀ m env r b) : EvI prog w A E h₀ m env (.BinOp l op r pos) c :=
  ⟨fun _ s F h => wpAny_BinOp (ha.run _ s F fun t k => hb.run _ _ F fun u k' => ho _ _ t u (h _ _))⟩
variable {l r : Expr} {pos : Pos} {a b : Int}
theorem EvI.add (ha : EvI prog w A E h₀ m env l a) (hb : EvI prog w A E h₀ m env r b) : EvI prog w A E h₀ m env (.BinOp l .Add r pos) (a + b) := EvI.bin (fun _ _ _ _ h => add_int h) ha hb
theorem EvI.sub (ha : EvI prog w A E h₀ m env l a) (hb : EvI prog w A E h₀ m env r b) : EvI prog w A E h₀ m env (.BinOp l .Sub r pos) (a - b) := EvI.bin (fun _ _ _ _ h => sub_int h) ha hb
theorem EvI.and (ha : EvI prog w A E h₀ m env l a) (hb : EvI prog w A E h₀ m env r b) : EvI prog w A E h₀ m env (.BinOp l .BitAnd r pos) (Builtin.bitAnd a b) := EvI.bin (fun _ _ _ _ h => and_int h) ha hb
theorem EvI.or (ha : EvI prog w A E h₀ m env l a) (hb : EvI prog w A E h₀ m env r b) : EvI prog w A E h₀ m env (.BinOp l .BitOr r pos) (Builtin.bitOr a b) := EvI.bin (fun _ _ _ _ h => or_int h) ha hb
theorem EvI.shr (ha : EvI prog w A E h₀ m env l a) (hb : EvI prog w A E h₀ m env r b) (h0 : 0 ≤ b) : EvI prog w A E h₀ m env (.BinOp l .RShift r pos) (a.fdiv (2 ^ b.toNat)) := EvI.bin (fun _ _ _ _ h => rshift_int h0 h) ha hb
theorem EvI.shl (ha : EvI prog w A E h₀ m env l a) (hb : EvI prog w A E h₀ m env r b) (h0 : 0 ≤ b) (h1 : b ≤ 1000000) (h2 : a.natAbs < 2 ^ 64) : EvI prog w A E h₀ m env (.BinOp l .LShift r pos) (a * 2 ^ b.toNat) :=
  EvI.bin (fun _ _ _ _ h => lshift_int_small h0 h1 h2 h) ha hb
theorem assign_ev {x : Str} {e : Expr} {p' : Pos} {v : Int} {s : Shared} {news : List (Addr × Obj)} {Q : Flow → Shared → Prop} (F : Fr h₀ env.locals s.heap m) (N : News h₀ env.locals s.heap news) (c : EvI prog w A E h₀ m env e v)
    (h : ∀ h' tk t, Fr h₀ env.locals h' (fun y => if y = x then some (.int v t) else m y) → News h₀ env.locals h' news → Q .next { s with heap := h', toks := tk })
    (hx : env.kindOf x = some .local := by rfl) (hs : swapsWith e (some (.Name x p')) pos.line env = pure false := by rfl) (hp : (env.scope.kind == .class || (env.scope.kind == .module && env.locals != env.globals)) = false := by rfl) :
    wpAny (model prog w) A (exec (.Assign [.Name x p'] e pos) env) Q E s :=
  wpAny_Assign_Name (c.run _ s F fun t k => wpAny_storeName_local hx F.ns (fun h' hn hs => h h' _ t (F.set hn hs) (N.set hs)) hp) hs
structure EvB (prog : Program) (w : World) (A : Around) (E : Value → Shared → Prop) (h₀ : Heap) (m : Str → Option Value) (env : Env) (e : Expr) (P : Prop) : Prop where
  run : ∀ (Q : Bool → Shared → Prop) (s : Shared), Fr h₀ env.locals s.heap m → (P → ∀ k, Q true { s with toks := k }) → (¬ P → ∀ k, Q false { s with toks := k }) → wpAny (model prog w) A (isTrue e env (eval e env)) Q E s
theorem EvB.cmp {op : CmpOp} {P : Prop} [hd : Decidable P] (ho : ∀ (Q : Value → Shared → Prop) (s : Shared) t u, Q (.bool (decide P)) s → wpAny (model prog w) A (compareOp op (.int a t) (.int b u)) Q E s) (hm : behindInMarks op r = false)
    (ha : EvI prog w A E h₀ m env l a) (hb : EvI prog w A E h₀ m env r b) : EvB prog w A E h₀ m env (.Compare l [op] [r] pos) P :=
  ⟨fun _ s F ht hf => wpAny_isTrue_Compare1 (ha.run _ s F fun t k => hb.run _ _ F fun u k' => ho _ _ t u (wpAny_truthy_bool (by
    by_cases h : P
    · simpa [h] using ht h k'
    · simpa [h] using hf h k'))) hm⟩
theorem EvB.lt (ha : EvI prog w A E h₀ m env l a) (hb : EvI prog w A E h₀ m env r b) (hm : behindInMarks .Lt r = false := by with_unfolding_all rfl) : EvB prog w A E h₀ m env (.Compare l [.Lt] [r] pos) (a < b) := EvB.cmp (fun _ _ _ _ h => lt_int h) hm ha hb
theorem EvB.le (ha : EvI prog w A E h₀ m env l a) (hb : EvI prog w A E h₀ m env r b) (hm : behindInMarks .LtE r = false := by with_unfolding_all rfl) : EvB prog w A E h₀ m env (.Compare l [.LtE] [r] pos) (a ≤ b) := EvB.cmp (fun _ _ _ _ h => le_int h) hm ha hb
theorem EvB.gt (ha : EvI prog w A E h₀ m env l a) (hb : EvI prog w A E h₀ m env r b) (hm : behindInMarks .Gt r = false := by with_unfolding_all rfl) : EvB prog w A E h₀ m env (.Compare l [.Gt] [r] pos) (b < a) := EvB.cmp (fun _ _ _ _ h => gt_int h) hm ha hb
theorem EvB.ge (ha : EvI prog w A E h₀ m env l a) (hb : EvI prog w A E h₀ m env r b) (hm : behindInMarks .GtE r = false := by with_unfolding_all rfl) : EvB prog w A E h₀ m env (.Compare l [.GtE] [r] pos) (b ≤ a) := EvB.cmp (fun _ _ _ _ h => ge_int h) hm ha hb
theorem EvB.eq (ha : EvI prog w A E h₀ m env l a) (hb : EvI prog w A E h₀ m env r b) (hm : behindInMarks .Eq r = false := by with_unfolding_all rfl) : EvB prog w A E h₀ m env (.Compare l [.Eq] [r] pos) (a = b) :=
  EvB.cmp (fun _ _ _ _ h => eq_int (by have e : (a == b) = decide (a = b) := by by_cases q : a = b <;> simp [q]
                                       rw [e]; exact h)) hm ha hb
variable {s : Shared} {test : Expr} {body orelse : List Stmt} {Q : Flow → Shared → Prop} {P : Prop}
theorem if_ev (F : Fr h₀ env.locals s.heap m) (c : EvB prog w A E h₀ m env test P) (ht : P → ∀ k, wpAny (model prog w) A (execs body env) Q E { s with toks := k }) (hf : ¬ P → ∀ k, wpAny (model prog w) A (execs orelse env) Q E { s with toks := k }) :
    wpAny (model prog w) A (exec (.If test body orelse pos) env) Q E s := wpAny_If (c.run _ s F (fun p k => by simpa using ht p k) (fun p k => by simpa using hf p k))
theorem isTrue_ev {Q : Bool → Shared → Prop} (F : Fr h₀ env.locals s.heap m) (c : EvB prog w A E h₀ m env test P) (ht : P → ∀ k, Q true { s with toks := k }) (hf : ¬ P → ∀ k, Q false { s with toks := k }) :
    wpAny (model prog w) A (isTrue test env (eval test env)) Q E s := c.run _ s F ht hf
theorem append_ev {o : Str} {p1 p2 p3 p4 : Pos} {arg : Expr} {D : Addr} {its : Array Value} {n : Nat} {v : Int} {news : List (Addr × Obj)} {news' : Tok → List (Addr × Obj)} {pl : Sem Bool}
    (F : Fr h₀ env.locals s.heap m) (N : News h₀ env.locals s.heap news) (c : EvI prog w A E h₀ m env arg v) (hm : m o = some (.ref D)) (hx : env.kindOf o = some .local) (hk : env.scope.kind = .function) (hd : (o == ("__debug__" : Str)) = false)
    (U : ∀ t, Upd D (listOf its n) (listOf (its.push (.int v t)) (n + 1)) news (news' t)) (hz : its.size ≤ sizeLine)
    (h : ∀ h' tk t, Fr h₀ env.locals h' m → News h₀ env.locals h' (news' t) → Q .next { s with heap := h', toks := tk })
    (hi : interactive env = false := by rfl) (hs : swapsWith (.Call (.Attribute (.Name o p1) "append" p2) [arg] [] p3) none p4.line env = pure false := by rfl)
    (he : eval (.Call (.Attribute (.Name o p1) "append" p2) [arg] [] p3) env = (do
      let ov ← eval (.Name o p1) env
      standAt p2.atName
      let (f, first) ← holding [ov] (getMethod ov "append" pl)
      callWith p3 f first (backTo p3 (starEach [arg] env)) []) := by rfl)
    (he2 : starEach [arg] env = (false, eval arg env) :: starEach [] env := by rfl) (hpl : (backTo p3 (starEach [] env)).any (·.1) = false := by rfl) :
    wpAny (model prog w) A (exec (.Expr (.Call (.Attribute (.Name o p1) "append" p2) [arg] [] p3) p4) env) Q E s := by
  obtain ⟨_, _, rfl, _, _, _⟩ := (U 0).split
  have hg := (N (D, listOf its n) (List.mem_append.mpr (.inr (.head _)))).1
  refine wpAny_Expr ?_ hi hs
  refine MethodCall_ ?_ he
  refine wpAny_Name (wpAny_loadName_local hk hx F.ns hm ?_) hd
  refine getMethod_list_append hg rfl rfl ?_
  refine callWith_method1 ?_ he2 hpl
  refine spliced_more ?_ he2
  refine c.run _ _ F fun t k => ?_
  refine spliced_none ?_
  exact append_K F N (U t) (fun h' F' N' => h h' _ t F' N') hz
end
end

noncomputable abbrev tupO (its : List Value) : Obj := { cls := .type "tuple", data := .seq its.toArray }
noncomputable abbrev posJ : Pos := { line := 60, col := 50, endLine := 60, endCol := 87 }
noncomputable abbrev posS : Pos := { line := 29, col := 49, endLine := 29, endCol := 84 }
theorem len_sz (l : List Int) : (sz l).length = l.length := csize_sz l
theorem sz_app (a b : List Int) : sz a ++ sz b = sz (a ++ b) := by
  show (⟨(sz a).cps ++ (sz b).cps⟩ : Str) = _
  unfold sz
  simp
theorem sz_eq : Str.ofString "=" = sz [61] := by decide +kernel
theorem sz_quo : Str.ofString "\"" = sz [34] := by decide +kernel
theorem sz_emp : Str.empty = sz [] := by decide +kernel
theorem sz_w : Str.ofString "w" = sz [119] := by decide +kernel
theorem len_app (a b : Str) : (a ++ b).length = a.length + b.length := by show (a.cps ++ b.cps).size = _; rw [Array.size_append]; rfl
/-- the value as it is written -/
noncomputable def wrV (v : List Int) : List Int := if bareV v = true then v else 34 :: v ++ [34]
/-- the lists that a header has, as they lie -/
inductive Lists (key val : Str) : Int → Value → List (Addr × Obj) → Prop
  | zero (R P T : Addr) (n1 n2 : Nat) (t1 t2 : Tok) : Lists key val 0 (.ref R) [(R, listOf #[.ref P] n1), (P, listOf #[.ref T] n2), (T, tupO [.str key t1, .str val t2])]
  | one (R P U T : Addr) (n1 n2 : Nat) (t1 t2 tu : Tok) : Lists key val 1 (.ref R) [(R, listOf #[.ref P] n1), (P, listOf #[.ref U, .ref T] n2), (U, tupO [.str (sz [119]) tu, .none]), (T, tupO [.str key t1, .str val t2])]
  | two (R P O U T : Addr) (n1 n2 n3 : Nat) (t1 t2 tu : Tok) : Lists key val 2 (.ref R) [(R, listOf #[.ref P, .ref O] n1), (P, listOf #[.ref U] n2), (O, listOf #[.ref T] n3), (U, tupO [.str (sz [119]) tu, .none]), (T, tupO [.str key t1, .str val t2])]
section
variable {prog : Program} {w : World} {A : Around} {E : Value → Shared → Prop} {s : Shared} {h₀ : Heap} {L D pa : Addr} {m : Str → Option Value} {news : List (Addr × Obj)} {x : Str} {t : Tok} {Q : Value → Shared → Prop}
theorem join_K {its : Array Value} {n : Nat} {ys : List Str} (N : News h₀ L s.heap news) (hm : (D, listOf its n) ∈ news) (hi : StrsAre its.toList ys) (hsep : x.length ≤ 64) (hok : (ys.map (·.length)).sum + ys.length * 64 ≤ 16777216)
    (h : ∀ t' k, Q (.str (Txt.join x ys) t') { s with toks := k }) : wpAny (model prog w) A (call (.builtin "str.join") [.str x t, .ref D]) Q E s :=
  join_listC (News.isList N hm) hi hsep hok h
theorem join_K1 {its : Array Value} {n : Nat} {y : Str} {u : Tok} (N : News h₀ L s.heap news) (hm : (D, listOf its n) ∈ news) (hi : its.toList = [.str y u]) (hsep : x.length ≤ 64) (hok : y.length ≤ 1000000)
    (h : ∀ t' k, Q (.str y t') { s with toks := k }) : wpAny (model prog w) A (call (.builtin "str.join") [.str x t, .ref D]) Q E s :=
  join_K (ys := [y]) N hm (by rw [hi]; exact .cons _ _ .nil) hsep (by simp; omega) h
theorem join_K2 {its : Array Value} {n : Nat} {y z : Str} {u u2 : Tok} (N : News h₀ L s.heap news) (hm : (D, listOf its n) ∈ news) (hi : its.toList = [.str y u, .str z u2]) (hsep : x.length ≤ 64) (hok : y.length ≤ 1000000) (hok2 : z.length ≤ 1000000)
    (h : ∀ t' k, Q (.str (y ++ x ++ z) t') { s with toks := k }) : wpAny (model prog w) A (call (.builtin "str.join") [.str x t, .ref D]) Q E s :=
  join_K (ys := [y, z]) N hm (by rw [hi]; exact .cons _ _ (.cons _ _ .nil)) hsep (by simp; omega) h
theorem full_bare {v : List Int} (F : Fr h₀ L s.heap m) (N : News h₀ L s.heap news) (P : Pat s.heap pa cJTOK 0 0) (hb : bareV v = true) (hz : v.length ≤ 50000)
    (h : ∀ a b h', Fr h₀ L h' m → News h₀ L h' ((a, matO (.str (sz v) t) pa v.length (-1) b) :: news) → (∀ p ∈ news, p.1 < a) → Q (.ref a) { s with heap := h' }) :
    wpAny (model prog w) A (call (.builtin "re.Pattern.fullmatch") [.ref pa, .str (sz v) t]) Q E s := by
  refine full_K F N P (.str _ _) (by rw [csize_sz]; omega) (jtok_bare hb (by omega)) (by decide) rfl rfl (by show 0 ≤ 1000; decide) fun a b h' F' N' l1 l2 => ?_
  rw [csize_sz] at N'
  exact h a b h' F' (fun q hq => N' q (by rcases List.mem_cons.mp hq with rfl | hq; (· exact .head _); exact .tail _ (.tail _ hq))) fun q hq => Nat.lt_trans (l1 q hq) l2
theorem full_care {v : List Int} (P : Pat s.heap pa cJTOK 0 0) (hb : ¬ bareV v = true) (hz : v.length ≤ 50000) (h : Q .none s) :
    wpAny (model prog w) A (call (.builtin "re.Pattern.fullmatch") [.ref pa, .str (sz v) t]) Q E s :=
  full_no P (.str _ _) (by rw [csize_sz]; omega) (jtok_care (by simpa using hb) (by omega)) (by decide) h
end
theorem join_v1 {k : Int} {v : List Int} (hb : bareV v = true) : Str.empty ++ sz [k] ++ Str.ofString "=" ++ sz v = sz (k :: 61 :: wrV v) := by
  rw [sz_emp, sz_eq, sz_app, sz_app, sz_app]; unfold wrV; rw [if_pos hb]; rfl
theorem join_v2 {k : Int} {v : List Int} (hb : ¬ bareV v = true) : Str.empty ++ sz [k] ++ Str.ofString "=" ++ (Str.ofString "\"" ++ sz v ++ Str.ofString "\"") = sz (k :: 61 :: wrV v) := by
  rw [sz_emp, sz_eq, sz_quo, sz_app, sz_app, sz_app, sz_app, sz_app]; unfold wrV; rw [if_neg hb]; rfl
theorem sz_semi : Str.ofString "; " = sz [59, 32] := by decide +kernel
theorem sz_wsemi : Str.ofString "w; " = sz [119, 59, 32] := by decide +kernel
theorem sz_comma : Str.ofString ", " = sz [44, 32] := by decide +kernel
theorem join_w {l : List Int} (x : List Int) : sz [119] ++ sz x ++ sz l = sz (119 :: x ++ l) := by rw [sz_app, sz_app]; rfl
theorem words_w_join0_1 : True := by
  k_with "c_len" => ((simp only [List.map_cons, List.map_nil, List.sum_cons, List.sum_nil, List.length_cons, List.length_nil, len_app, sz_eq, sz_quo, sz_emp, sz_w, sz_wsemi, sz_semi, sz_comma, len_sz]) <;> omega)
  k_with "call builtin:str.join" => first | (k_dflt (refine join_K1 (by k_asm) (by k_mem) (by exact rfl) (by decide) (by walk_at "c_len") ?_); intro t' k') | (k_dflt (refine join_K2 (by k_asm) (by k_mem) (by exact rfl) (by decide) (by walk_at "c_len") (by walk_at "c_len") ?_); intro _ _)
  k_with "callWith" => ((with_reducible show wpAny _ _ (callWith _ (Value.builtin _) [_] _ _) _ _ _); k_dflt (refine callWith_method1 ?_))
  k_with "ListRest" => (with_reducible refine ListRest.zero (fun h' tk' F' N' => ?_))
  k_with "c_leq" => ((simp only [sizeLine_eq, len_app, sz_eq, sz_quo, sz_emp, sz_w, sz_wsemi, sz_semi, sz_comma, len_sz, List.length_cons, List.length_nil]) <;> omega)
  k_with "joinParts" => ((first | (with_reducible show wpAny _ _ (joinParts _ []) _ _ _) | (with_reducible show wpAny _ _ (joinParts _ (evalEach [] _)) _ _ _)); k_dflt (refine joinParts_nil ?_ (by walk_at "c_leq")))
  k_with "c_as" => ((repeat' (first | (refine List.forall_mem_cons.mpr ⟨fun hne' => ?_, ?_⟩) | (intro _ h'; exact absurd h' List.not_mem_nil))); all_goals first | exact absurd rfl (by assumption) | ((try dsimp only); refine (News.get (by k_asm) ?_); k_mem))
  trivial

section
theorem sg64 : ∀ d : Fin 64, Vs (b64c d.val) ∧ jtok (b64c d.val).toNat = decide (b64c d.val ≠ 47) ∧ Vs (trE (b64c d.val)) ∧ jtok (trE (b64c d.val)).toNat = true ∧ trE (b64c d.val) ≠ 47 := by unfold Vs; decide +kernel
theorem sg64' {d : Int} (h0 : 0 ≤ d) (h1 : d < 64) : Vs (b64c d) ∧ jtok (b64c d).toNat = decide (b64c d ≠ 47) ∧ Vs (trE (b64c d)) ∧ jtok (trE (b64c d)).toNat = true ∧ trE (b64c d) ≠ 47 := by
  have := sg64 ⟨d.toNat, by omega⟩
  have e : ((⟨d.toNat, by omega⟩ : Fin 64).val : Int) = d := by show ((d.toNat : Nat) : Int) = d; omega
  rw [e] at this
  exact this
theorem sg16 : ∀ c : Fin 128, (48 ≤ c.val ∧ c.val ≤ 57) ∨ (65 ≤ c.val ∧ c.val ≤ 70) → jtok c.val = true := by decide +kernel
theorem sg16' {c : Int} (h : (48 ≤ c ∧ c ≤ 57) ∨ (65 ≤ c ∧ c ≤ 70)) : Vs c ∧ jtok c.toNat = true := by
  refine ⟨by unfold Vs; omega, ?_⟩
  exact sg16 ⟨c.toNat, by omega⟩ (by show (48 ≤ c.toNat ∧ c.toNat ≤ 57) ∨ (65 ≤ c.toNat ∧ c.toNat ≤ 70); omega)
theorem vs61 : Vs 61 := by unfold Vs; decide
theorem enc64_vl {K : List Int} (h : Oct K) : Vl (enc64 K) := fun c hc => by
  unfold enc64 at hc
  rcases List.mem_append.mp hc with hc | hc
  · obtain ⟨d, hd, rfl⟩ := List.mem_map.mp hc
    have := dig64_in h d hd
    exact (sg64' this.1 this.2).1
  · rw [List.eq_of_mem_replicate hc]; exact vs61
theorem encU_vl {K : List Int} (h : Oct K) : Vl (encU K) := fun c hc => by
  unfold encU at hc
  obtain ⟨e, he, rfl⟩ := List.mem_map.mp hc
  unfold enc64 at he
  rcases List.mem_append.mp he with he | he
  · obtain ⟨d, hd, rfl⟩ := List.mem_map.mp he
    have := dig64_in h d hd
    exact (sg64' this.1 this.2).2.2.1
  · rw [List.eq_of_mem_replicate he]; exact vs61
theorem enc16_vl {K : List Int} (h : Oct K) : Vl (enc16 K) := fun c hc => (sg16' (enc16_in h c hc)).1
theorem encW_vl {k : Int} {K : List Int} (h : Oct K) : Vl (encW k K) := by
  unfold encW
  split
  · exact enc64_vl h
  · split
    · exact encU_vl h
    · exact enc16_vl h
theorem encW_len {k : Int} {K : List Int} (h : Oct K) : (encW k K).length ≤ 2 * K.length + 4 := by
  unfold encW
  have := enc64_len h
  split
  · exact this
  · split
    · unfold encU; rw [List.length_map]; exact this
    · rw [enc16_len]; omega
theorem ph_mod {K : List Int} (h : Oct K) : pad64 K = 0 ↔ K.length % 3 = 0 := by
  have h8 := f64 K h
  have := h8.ln
  have hp := h8.ph
  unfold pad64
  constructor
  · intro e
    by_cases h0 : (fold64 K).2.1 = 0
    · omega
    · rw [if_neg h0] at e
      split at e <;> omega
  · intro e
    have h0 : (fold64 K).2.1 = 0 := by omega
    rw [if_pos h0]
theorem dig_nil {K : List Int} (h : Oct K) : dig64 K = [] ↔ K = [] := by
  constructor
  · intro e
    by_cases hK : K = []
    · exact hK
    · exfalso
      have h8 := f64 K h
      have hl := h8.ln
      have hp := h8.ph
      have hk : 1 ≤ K.length := List.length_pos_iff.mpr hK
      have hd : 1 ≤ (fold64 K).1.length := by omega
      unfold dig64 at e
      dsimp only at e
      split at e
      · rw [e] at hd; simp at hd
      · split at e <;> simp at e
  · rintro rfl; rfl
theorem jtok61 : jtok (61 : Int).toNat = false := by decide +kernel
theorem bare_iff {k : Int} {K : List Int} (h : Oct K) (h0 : 0 ≤ k) (h2 : k < 3) : bareV (encW k K) = true ↔ K ≠ [] ∧ (k = 2 ∨ (K.length % 3 = 0 ∧ 47 ∉ encW k K)) := by
  unfold bareV
  simp only [Bool.and_eq_true, decide_eq_true_eq, List.all_eq_true]
  obtain rfl | rfl | rfl : k = 0 ∨ k = 1 ∨ k = 2 := by omega
  · show (enc64 K ≠ [] ∧ ∀ c ∈ enc64 K, jtok c.toNat = true) ↔ K ≠ [] ∧ ((0 : Int) = 2 ∨ (K.length % 3 = 0 ∧ 47 ∉ enc64 K))
    constructor
    · rintro ⟨a, b⟩
      have hp : pad64 K = 0 := by
        by_cases hp : pad64 K = 0
        · exact hp
        · have := b 61 (by unfold enc64; refine List.mem_append_right _ ?_; exact List.mem_replicate.mpr ⟨hp, rfl⟩)
          rw [jtok61] at this; cases this
      refine ⟨fun e => ?_, .inr ⟨(ph_mod h).mp hp, fun h47 => ?_⟩⟩
      · subst e; exact a rfl
      · have := b 47 h47
        have e : jtok (47 : Int).toNat = false := by decide +kernel
        rw [e] at this; cases this
    · rintro ⟨a, b⟩
      obtain ⟨b, c⟩ : K.length % 3 = 0 ∧ 47 ∉ enc64 K := by
        rcases b with b | b
        · omega
        · exact b
      have hp := (ph_mod h).mpr b
      have e : enc64 K = (dig64 K).map b64c := by unfold enc64; rw [hp]; simp
      rw [e] at c ⊢
      refine ⟨fun e2 => a ((dig_nil h).mp (List.map_eq_nil_iff.mp e2)), fun x hx => ?_⟩
      obtain ⟨d, hd, rfl⟩ := List.mem_map.mp hx
      have := dig64_in h d hd
      rw [(sg64' this.1 this.2).2.1]
      exact decide_eq_true fun e3 => c (by rw [← e3]; exact hx)
  · show (encU K ≠ [] ∧ ∀ c ∈ encU K, jtok c.toNat = true) ↔ K ≠ [] ∧ ((1 : Int) = 2 ∨ (K.length % 3 = 0 ∧ 47 ∉ encU K))
    have tr61 : trE 61 = 61 := by decide
    constructor
    · rintro ⟨a, b⟩
      have hp : pad64 K = 0 := by
        by_cases hp : pad64 K = 0
        · exact hp
        · have := b 61 (by unfold encU; rw [← tr61]; refine List.mem_map_of_mem ?_; unfold enc64; refine List.mem_append_right _ ?_; exact List.mem_replicate.mpr ⟨hp, rfl⟩)
          rw [jtok61] at this; cases this
      refine ⟨fun e => ?_, .inr ⟨(ph_mod h).mp hp, fun h47 => ?_⟩⟩
      · subst e; exact a rfl
      · have := b 47 h47
        have e : jtok (47 : Int).toNat = false := by decide +kernel
        rw [e] at this; cases this
    · rintro ⟨a, b⟩
      obtain ⟨b, c⟩ : K.length % 3 = 0 ∧ 47 ∉ encU K := by
        rcases b with b | b
        · omega
        · exact b
      have hp := (ph_mod h).mpr b
      have e : encU K = ((dig64 K).map b64c).map trE := by unfold encU enc64; rw [hp]; simp
      rw [e]
      refine ⟨fun e2 => a ((dig_nil h).mp (List.map_eq_nil_iff.mp (List.map_eq_nil_iff.mp e2))), fun x hx => ?_⟩
      obtain ⟨y, hy, rfl⟩ := List.mem_map.mp hx
      obtain ⟨d, hd, rfl⟩ := List.mem_map.mp hy
      have := dig64_in h d hd
      exact (sg64' this.1 this.2).2.2.2.1
  · show (enc16 K ≠ [] ∧ ∀ c ∈ enc16 K, jtok c.toNat = true) ↔ K ≠ [] ∧ ((2 : Int) = 2 ∨ (K.length % 3 = 0 ∧ 47 ∉ enc16 K))
    constructor
    · rintro ⟨a, b⟩
      exact ⟨fun e => by subst e; exact a rfl, .inl rfl⟩
    · rintro ⟨a, b⟩
      refine ⟨fun e => a ?_, fun c hc => (sg16' (enc16_in h c hc)).2⟩
      have := enc16_len K
      rw [e] at this
      exact List.eq_nil_of_length_eq_zero (by simp at this; omega)
/-- a header's text -/
noncomputable def dueL (sh k : Int) (v : List Int) : List Int := (if sh = 0 then [] else if sh = 1 then [119, 59, 32] else [119, 44, 32]) ++ k :: 61 :: wrV v
theorem wrV_len (v : List Int) : (wrV v).length ≤ v.length + 2 := by unfold wrV; split <;> simp
theorem dueL_len (sh k : Int) (v : List Int) : (dueL sh k v).length ≤ v.length + 7 := by
  have := wrV_len v
  unfold dueL
  split
  · simp; omega
  · split <;> simp <;> omega
theorem wrV_as {v : List Int} (hv : Vl v) : As (wrV v) := fun c hc => by
  unfold wrV at hc
  have h : ∀ c ∈ v, 0 ≤ c ∧ c < 128 := fun c hc => by obtain ⟨h1, h2, _⟩ := hv c hc; omega
  split at hc
  · exact h c hc
  · simp only [List.cons_append, List.mem_cons, List.mem_append, List.not_mem_nil, or_false] at hc
    rcases hc with rfl | hc | rfl
    · omega
    · exact h c hc
    · omega
theorem dueL_as {sh k : Int} {v : List Int} (hk : Ks k) (hv : Vl v) : As (dueL sh k v) := by
  obtain ⟨k1, k2⟩ := hk
  unfold dueL
  refine as_app ?_ fun c hc => ?_
  · intro c hc
    split at hc
    · cases hc
    · split at hc <;> (simp only [List.mem_cons, List.not_mem_nil, or_false] at hc; omega)
  · rcases List.mem_cons.mp hc with rfl | hc
    · omega
    · rcases List.mem_cons.mp hc with rfl | hc
      · omega
      · exact wrV_as hv c hc
end

noncomputable abbrev PR : Program := PySem.Challenge.rw_pa0038_01.row.prog

/-- a call of a def of the top's: its frame stands over the whole heap -/
theorem callP {prog : Program} {w : World} {A : Around} {s : Shared} {K : Frag} {E : Value → Shared → Prop} {Q : Value → Shared → Prop} {p : Program} {loose : List Str} {mean : ExcName → Option Value} {mg mb : Str → Option Value}
    {name qual : Str} {params : Arguments} {body : List Stmt} {scope : Scope} {dV kV doc pm cdv ct oc : Value} {an od : Option Addr} {osl : Array (Option Value)} {f : Addr} {pos : List Value} {kw : List (Str × Value)} {binds : List (Str × Value)}
    (X : K.In s.heap) (T : Top p loose mean mg mb s.heap)
    (ho : K.lookup f = some ⟨oc, od, .func (fnOf name qual params body scope dV kV doc pm an cdv ct), osl⟩) (hcd : codeIn K cdv qual = true) (hroom : A.depth < recursionLimit)
    (hbind : BindsTo s (fnOf name qual params body scope dV kV doc pm an cdv ct) ⟨pos, kw⟩ binds) (hloc : ∀ y ∈ binds, scope.names.lookup y.1 = some .local)
    (h : ∀ L h₁ tk, Fr s.heap L h₁ (fun y => binds.reverse.lookup y) → News s.heap L h₁ [] →
      wpAny (model prog w) (A.deeper (envOf qual scope L f cdv)) (execs body (envOf qual scope L f cdv))
        (fun fl s' => Q (match fl with | .ret v => v | _ => .none) s') (fun _ _ => False)
        { s with heap := h₁, toks := tk })
    (hco : scope.isCoroutine = false) (hgen : scope.isGenerator = false) (hk : scope.kind = .function)
    (hcell : ∀ x ∈ scope.names, x.2 ≠ .cell) : wpAny (model prog w) A (call (.ref f) pos kw) Q E s := by
  refine wpAny_call ?_
  refine codeAny_call_def (fd := fnOf name qual params body scope dV kV doc pm an cdv ct) (body := body) (binds := binds) hroom (X _ _ ho) rfl T.nolimit (codeRec_of X hcd) rfl hbind hcell hloc (fun h₁ hns hk₁ => ?_) hco hgen hk
  refine wpAny_mono (h s.heap.objs.size h₁ _ ⟨hns, hk₁, Nat.le_refl _⟩ (fun _ hp => nomatch hp)) (fun fl s' q => ?_) (fun _ _ y => y.elim)
  exact q

/-- the around of a call: room below it -/
structure Room (A : Around) (d u : Nat) : Prop where
  hh : A.handled = none
  hd : A.depth + d < recursionLimit
  hu : A.units + u < cLine

theorem Room.roomy {A : Around} {d u : Nat} (r : Room A d u) : A.depth < recursionLimit := by have := r.hd; omega
theorem Room.deeper {A : Around} {env : Env} {d u d' u' : Nat} (r : Room A d' u') (h1 : d + 1 ≤ d') (h2 : u + 3 ≤ u') : Room (A.deeper env) d u :=
  ⟨r.hh, by have := r.hd; show A.depth + 1 + d < _; omega, by have := r.hu; show A.units + 3 + u < _; omega⟩

noncomputable abbrev mkA (dp un : Nat) (fr : Option (List Env)) (gd : Option (List Code)) : Around := { handled := none, depth := dp, frames := fr, guards := gd, units := un }
noncomputable def Spec (w : World) (f : Addr) (d u : Nat) (args : List Value) (kw : List (Str × Value)) (Post : Value → Heap → Prop) : Prop :=
  ∀ (p : Program) (loose : List Str) (mean : ExcName → Option Value) (mg mb : Str → Option Value) (dp un : Nat) (fr : Option (List Env)) (gd : Option (List Code)) (s : Shared) (Q : Value → Shared → Prop) (E : Value → Shared → Prop),
    Room (mkA dp un fr gd) d u → (hd.heap_1 w.params).In s.heap → Top p loose mean mg mb s.heap →
    (∀ v h' tk', s.heap.StaysIn h' → Post v h' → Q v { s with heap := h', toks := tk' }) →
    wpAny (model PR w) (mkA dp un fr gd) (call (.ref f) args kw) Q E s

theorem Fr.onS {h₀ h h' : Heap} {L : Addr} {m : Str → Option Value} (F : Fr h₀ L h m) (st : h.StaysIn h') : Fr h₀ L h' m := by
  obtain ⟨oL, es, ep, hL, r⟩ := F.ns
  exact ⟨⟨oL, es, ep, st _ _ hL, r⟩, fun b o e => st _ _ (F.keep b o e), F.above⟩
theorem News.onS {h₀ h h' : Heap} {L : Addr} {news : List (Addr × Obj)} (N : News h₀ L h news) (st : h.StaysIn h') : News h₀ L h' news :=
  fun p hp => ⟨st _ _ (N p hp).1, (N p hp).2⟩

theorem use_spec {w : World} {f : Addr} {d u : Nat} {args : List Value} {kw : List (Str × Value)} {Post : Value → Heap → Prop} {h₀ : Heap} {L : Addr} {m : Str → Option Value} {news : List (Addr × Obj)} {A : Around} {s : Shared}
    {p : Program} {loose : List Str} {mean : ExcName → Option Value} {mg mb : Str → Option Value} {Q E : Value → Shared → Prop}
    (S : Spec w f d u args kw Post) (R : Room A d u) (F : Fr h₀ L s.heap m) (N : News h₀ L s.heap news) (X : (hd.heap_1 w.params).In h₀) (T : Top p loose mean mg mb h₀)
    (h : ∀ v h' tk', Fr h₀ L h' m → News h₀ L h' news → s.heap.StaysIn h' → Post v h' → Q v { s with heap := h', toks := tk' }) :
    wpAny (model PR w) A (call (.ref f) args kw) Q E s := by
  obtain ⟨hd0, dp, fr, gd, un⟩ := A
  obtain rfl : hd0 = none := R.hh
  exact S p loose mean mg mb dp un fr gd s Q E R (X.keeps F.keep) (T.keeps F.keep) fun v h' tk' st po => h v h' tk' (Fr.onS F st) (News.onS N st) st po

theorem use_specV {w : World} {f : Addr} {d u : Nat} {args : List Value} {kw : List (Str × Value)} {V : Tok → Value} {h₀ : Heap} {L : Addr} {m : Str → Option Value} {news : List (Addr × Obj)} {A : Around} {s : Shared}
    {p : Program} {loose : List Str} {mean : ExcName → Option Value} {mg mb : Str → Option Value} {Q E : Value → Shared → Prop}
    (S : Spec w f d u args kw (fun v _ => ∃ t', v = V t')) (R : Room A d u) (F : Fr h₀ L s.heap m) (N : News h₀ L s.heap news) (X : (hd.heap_1 w.params).In h₀) (T : Top p loose mean mg mb h₀)
    (h : ∀ t' h' tk', Fr h₀ L h' m → News h₀ L h' news → Q (V t') { s with heap := h', toks := tk' }) :
    wpAny (model PR w) A (call (.ref f) args kw) Q E s := use_spec S R F N X T fun v h' tk' F' N' _ po => by obtain ⟨t', rfl⟩ := po; exact h t' h' tk' F' N'
theorem use_specE {w : World} {f : Addr} {d u : Nat} {args : List Value} {kw : List (Str × Value)} {x : Value} {h₀ : Heap} {L : Addr} {m : Str → Option Value} {news : List (Addr × Obj)} {A : Around} {s : Shared}
    {p : Program} {loose : List Str} {mean : ExcName → Option Value} {mg mb : Str → Option Value} {Q E : Value → Shared → Prop}
    (S : Spec w f d u args kw (fun v _ => v = x)) (R : Room A d u) (F : Fr h₀ L s.heap m) (N : News h₀ L s.heap news) (X : (hd.heap_1 w.params).In h₀) (T : Top p loose mean mg mb h₀)
    (h : ∀ h' tk', Fr h₀ L h' m → News h₀ L h' news → Q x { s with heap := h', toks := tk' }) :
    wpAny (model PR w) A (call (.ref f) args kw) Q E s := use_spec S R F N X T fun v h' tk' F' N' _ po => by obtain rfl := po; exact h h' tk' F' N'

/-- what follows a block, kept under a name -/
structure Sealed {α : Type} (Q Q' : α → Shared → Prop) : Type where
  of : ∀ a s, Q a s → Q' a s
theorem Sealed.out {α : Type} {Q Q' : α → Shared → Prop} {a : α} {s : Shared} (h : Sealed Q Q') (q : Q a s) : Q' a s := h.of a s q
theorem seal_it {M : Model} {A : Around} {E : Value → Shared → Prop} {s : Shared} {α : Type} {t : Sem α} {Q : α → Shared → Prop}
    (h : ∀ Q' : α → Shared → Prop, Sealed Q Q' → wpAny M A t Q' E s) : wpAny M A t Q E s := h Q ⟨fun _ _ q => q⟩
theorem seal_is {M : Model} {A : Around} {E : Value → Shared → Prop} {s : Shared} {α : Type} {t : Sem α} {Q Q₀ : α → Shared → Prop} (_ : Sealed Q₀ Q)
    (h : wpAny M A t Q E s) : wpAny M A t Q E s := h
theorem all_cons {d a : Addr} {o : Obj} {r : List (Addr × Obj)} (h : a ≠ d) (t : ∀ p ∈ r, p.1 ≠ d) : ∀ p ∈ (a, o) :: r, p.1 ≠ d := List.forall_mem_cons.mpr ⟨h, t⟩
theorem allLt_ne {d : Addr} : ∀ {l : List (Addr × Obj)}, AllLt d l → ∀ p ∈ l, p.1 ≠ d
  | [], _, _, hp => absurd hp List.not_mem_nil
  | _ :: _, h, p, hp => by
    rcases List.mem_cons.mp hp with rfl | hp
    · exact Nat.ne_of_lt h.1
    · exact allLt_ne h.2 p hp
theorem kst_nilx {h₀ h : Heap} {L : Addr} {x : Str} {v u m₀ : Str → Option Value} {ps : List (Str × Value)} (F : Fr h₀ L h (fun y => if y = x then v y else kstB (fun z => if List.contains [] z then u z else m₀ z) ps y)) : Fr h₀ L h (fun y => if y = x then v y else kstB m₀ ps y) := by
  simpa only [List.contains_nil, Bool.false_eq_true, if_false] using F
theorem kst_nil {h₀ h : Heap} {L : Addr} {u m₀ : Str → Option Value} {ps : List (Str × Value)} (F : Fr h₀ L h (kstB (fun z => if List.contains [] z then u z else m₀ z) ps)) : Fr h₀ L h (kstB m₀ ps) := by
  simpa only [List.contains_nil, Bool.false_eq_true, if_false] using F
theorem News.pushed {h₀ h : Heap} {L l : Addr} {vs : List Value} {v : Value} {n : Nat} {own : List (Addr × Obj)} (N : News h₀ L h ((l, W.listOf (vs.toArray.push v) n) :: own)) : News h₀ L h ((l, W.listOf (vs ++ [v]).toArray n) :: own) := by
  rwa [List.push_toArray] at N
theorem News.pushed2l {h₀ h : Heap} {L l : Addr} {vs : List Value} {v v2 : Value} {n : Nat} {own : List (Addr × Obj)} (N : News h₀ L h ((l, W.listOf ((vs.toArray.push v).push v2) n) :: own)) : News h₀ L h ((l, W.listOf (vs ++ [v] ++ [v2]).toArray n) :: own) := by
  rw [List.push_toArray, List.push_toArray] at N; exact N
theorem News.pushed2 {h₀ h : Heap} {L l : Addr} {vs : List Value} {v v2 : Value} {n : Nat} {own : List (Addr × Obj)} (N : News h₀ L h ((l, W.listOf ((vs.toArray.push v).push v2) n) :: own)) : News h₀ L h ((l, W.listOf (vs ++ [v, v2]).toArray n) :: own) := by
  rw [List.push_toArray, List.push_toArray, List.append_assoc] at N; exact N
theorem News.pushed3 {h₀ h : Heap} {L l : Addr} {vs : List Value} {v v2 v3 : Value} {n : Nat} {own : List (Addr × Obj)} (N : News h₀ L h ((l, W.listOf (((vs.toArray.push v).push v2).push v3) n) :: own)) : News h₀ L h ((l, W.listOf (vs ++ [v, v2, v3]).toArray n) :: own) := by
  rw [List.push_toArray, List.push_toArray, List.push_toArray, List.append_assoc, List.append_assoc] at N; exact N
theorem sz_ok0 {α : Type} {vs : List α} (h : vs.length ≤ 20000) : vs.length ≤ sizeLine := Nat.le_trans h (by rw [sizeLine_eq]; decide)
theorem sz_ok2 {α : Type} {vs : List α} {a b : α} (h : vs.length ≤ 20000) : (vs ++ [a, b]).length ≤ sizeLine := by rw [List.length_append]; exact Nat.le_trans (Nat.add_le_add_right h 2) (by rw [sizeLine_eq]; decide)
theorem sz_ok3 {α : Type} {vs : List α} {a b c : α} (h : vs.length ≤ 20000) : (vs ++ [a, b, c]).length ≤ sizeLine := by rw [List.length_append]; exact Nat.le_trans (Nat.add_le_add_right h 3) (by rw [sizeLine_eq]; decide)
theorem sz_p1 {vs : List Value} {a : Value} (h : vs.length ≤ 20000) : (vs.toArray.push a).size ≤ sizeLine := by rw [Array.size_push, List.size_toArray]; exact Nat.le_trans (Nat.add_le_add_right h 1) (by rw [sizeLine_eq]; decide)
theorem sz_p2 {vs : List Value} {a b : Value} (h : vs.length ≤ 20000) : ((vs.toArray.push a).push b).size ≤ sizeLine := by rw [Array.size_push, Array.size_push, List.size_toArray]; exact Nat.le_trans (Nat.add_le_add_right h 2) (by rw [sizeLine_eq]; decide)
theorem sz_ok {vs : List Value} (h : vs.length ≤ 20000) : vs.toArray.size ≤ sizeLine := by rw [List.size_toArray, sizeLine_eq]; omega
local macro_rules | `(tactic| k_lt $h:ident) => `(tactic| (replace $h := allLt_of $h; dsimp only [AllLt] at $h:ident))
local macro_rules | `(tactic| k_ne) => `(tactic| k_extra "k_ne")
local macro_rules | `(tactic| k_all) => `(tactic| k_extra "k_all")
local macro_rules | `(tactic| row_timed "to" ($t)) => `(tactic| repeat' (first | ((fail_if_success ($t)); first | (k_unfold; (try dsimp only)) | (k_end; wrow_close) | walk1 | (dsimp only; walk1) | (leave1; (try dsimp only)) | (refine Sealed.out (by assumption) ?_; (try dsimp only))) | fail "no step"))
local macro_rules | `(tactic| k_steps) => `(tactic| row_timed "to" (with_reducible show InvEndN _ _ _ _ _ _ _))
theorem words_w_base_1 : True := by
  k_with "c_lt" => with_reducible first | assumption | exact And.left (by assumption) | exact And.left (And.right (by assumption)) | exact And.left (And.right (And.right (by assumption))) | exact And.left (And.right (And.right (And.right (by assumption)))) | exact And.left (And.right (And.right (And.right (And.right (by assumption))))) | exact And.left (And.right (And.right (And.right (And.right (And.right (by assumption)))))) | exact And.left (And.right (And.right (And.right (And.right (And.right (And.right (by assumption))))))) | exact And.left (And.right (And.right (And.right (And.right (And.right (And.right (And.right (by assumption)))))))) | exact And.left (And.right (And.right (And.right (And.right (And.right (And.right (And.right (And.right (by assumption))))))))) | exact And.left (And.right (And.right (And.right (And.right (And.right (And.right (And.right (And.right (And.right (by assumption)))))))))) | exact And.left (And.right (And.right (And.right (And.right (And.right (And.right (And.right (And.right (And.right (And.right (by assumption))))))))))) | exact And.left (And.right (And.right (And.right (And.right (And.right (And.right (And.right (And.right (And.right (And.right (And.right (by assumption)))))))))))) | exact And.left (And.right (And.right (And.right (And.right (And.right (And.right (And.right (And.right (And.right (And.right (And.right (And.right (by assumption)))))))))))))
  k_with "k_ne" => (refine neN ?_; (try dsimp only); first | with_reducible assumption | exact Nat.ne_of_gt (by walk_at "c_lt") | exact Nat.ne_of_lt (by walk_at "c_lt") | omega)
  k_with "k_all" => first | exact List.forall_mem_nil _ | (k_dflt (exact allLt_ne (by assumption))) | (exact OwnOff.ne (by with_reducible assumption) (by k_memK)) | (refine all_cons (by k_ne) (by k_all)) | fail "k_all"
  k_with "execs cons" => ((try dsimp only); (first | (with_reducible refine seal_is (by assumption) ?_) | (with_reducible refine seal_it ?_; intro _ _)); (refine wpAny_execs_cons ?_))
  k_with "c_out" => repeat (refine Sealed.out (by assumption) ?_; (try dsimp only))
  k_with "c_ev" => first | ((with_reducible show EvI _ _ _ _ _ _ _ (Expr.Constant _ _ _) _); exact EvI.lit) | ((with_reducible show EvI _ _ _ _ _ _ _ (Expr.Name _ _) _); exact EvI.name (by exact rfl) (by exact rfl) (by exact rfl) (by decide)) | ((with_reducible show EvI _ _ _ _ _ _ _ (Expr.BinOp _ Operator.Add _ _) _); apply EvI.add <;> walk_at "c_ev") | ((with_reducible show EvI _ _ _ _ _ _ _ (Expr.BinOp _ Operator.Sub _ _) _); apply EvI.sub <;> walk_at "c_ev") | ((with_reducible show EvI _ _ _ _ _ _ _ (Expr.BinOp _ Operator.BitAnd _ _) _); apply EvI.and <;> walk_at "c_ev") | ((with_reducible show EvI _ _ _ _ _ _ _ (Expr.BinOp _ Operator.BitOr _ _) _); apply EvI.or <;> walk_at "c_ev") | ((with_reducible show EvI _ _ _ _ _ _ _ (Expr.BinOp _ Operator.RShift _ _) _); apply EvI.shr <;> first | walk_at "c_ev" | decide | walk_at "c_idx") | ((with_reducible show EvI _ _ _ _ _ _ _ (Expr.BinOp _ Operator.LShift _ _) _); apply EvI.shl <;> first | walk_at "c_ev" | decide | walk_at "c_idx") | ((with_reducible show EvI _ _ _ _ _ _ _ (Expr.Subscript _ _ _) _); walk_at "c_ext")
  k_with "c_evb" => first | (apply EvB.lt <;> first | walk_at "c_ev" | with_unfolding_all rfl) | (apply EvB.le <;> first | walk_at "c_ev" | with_unfolding_all rfl) | (apply EvB.gt <;> first | walk_at "c_ev" | with_unfolding_all rfl) | (apply EvB.ge <;> first | walk_at "c_ev" | with_unfolding_all rfl) | (apply EvB.eq <;> first | walk_at "c_ev" | with_unfolding_all rfl)
  k_with "exec Assign" => ((with_reducible first | show wpAny _ _ (exec (Stmt.Assign [Expr.Name _ _] (Expr.BinOp _ _ _ _) _) _) _ _ _ | show wpAny _ _ (exec (Stmt.Assign [Expr.Name _ _] (Expr.Constant (Const.int _) _ _) _) _) _ _ _); k_dflt ((refine assign_ev (by k_asm) (by k_asm) (by walk_at "c_ev") ?_); intro _ _ _ _ _; (try k_sweep)))
  k_with "exec If" => ((with_reducible first | show wpAny _ _ (exec (Stmt.If (Expr.Compare _ [CmpOp.Eq] [_] _) _ _ _) _) _ _ _ | show wpAny _ _ (exec (Stmt.If (Expr.Compare _ [CmpOp.GtE] [_] _) _ _ _) _) _ _ _ | show wpAny _ _ (exec (Stmt.If (Expr.Compare _ [CmpOp.Gt] [_] _) _ _ _) _) _ _ _); k_dflt ((refine if_ev (by k_asm) (by walk_at "c_evb") ?_ ?_) <;> (intro _ _; (try (exfalso; omega)))))
  k_with "isTrue Compare" => ((with_reducible first | show wpAny _ _ (isTrue (Expr.Compare _ [CmpOp.GtE] [_] _) _ _) _ _ _ | show wpAny _ _ (isTrue (Expr.Compare _ [CmpOp.Gt] [_] _) _ _) _ _ _ | show wpAny _ _ (isTrue (Expr.Compare _ [CmpOp.Lt] [_] _) _ _) _ _ _); k_dflt ((refine isTrue_ev (by k_asm) (by walk_at "c_evb") ?_ ?_) <;> (intro _ _; (try (exfalso; omega)))))
  k_with "c_sz" => first | with_reducible assumption | with_reducible exact sz_p1 (by assumption) | with_reducible exact sz_p2 (by assumption) | (rw [List.size_toArray, sizeLine_eq]; omega) | size_fits
  k_with "exec Expr" => ((with_reducible show wpAny _ _ (exec (Stmt.Expr (Expr.Call (Expr.Attribute (Expr.Name _ _) (Str.ofString "append") _) [_] [] _) _) _) _ _ _); k_dflt ((refine append_ev (by k_asm) (by k_asm) (by walk_at "c_ev") (by exact rfl) (by exact rfl) (by exact rfl) (by decide) (fun t => by k_upd) (by walk_at "c_sz") ?_); intro _ _ _ _ _; (try k_sweep)))
  k_with "c_enter" => (
  w_top off
  refine' callP ?k1 ?k2 ?k6 ?k7 ?k8 ?k9 ?kB ?_ ?c2 ?c3 ?c4 ?c5
  (case k1 => assumption)
  (case k2 => assumption)
  (case k6 => k_is)
  (case k7 => k_is)
  (case k8 => exact Room.roomy (by assumption))
  (case k9 => first | exact BindsTo.of_eq rfl | exact binds_K (by assumption) rfl (by k_is) rfl rfl rfl)
  (case kB => exact locs rfl)
  (case c2 => exact rfl)
  (case c3 => exact rfl)
  (case c4 => exact rfl)
  (case c5 => decide))
  k_with "c_keep" => exact Fr.keep (by assumption)
  k_with "c_room" => first | (exact Room.deeper (by assumption) (by decide) (by decide)) | (refine ⟨rfl, ?_, ?_⟩ <;> decide)
  k_with "call type:type" => ((with_reducible show wpAny _ _ (call (Value.type "type") [Value.bytes _ _]) _ _ _); refine call_type_of (typeIs_bytes _ _ _) (by decide +kernel) ?_)
  k_with "call type:type" => ((with_reducible show wpAny _ _ (call (Value.type "type") [Value.str _ _]) _ _ _); refine call_type_of (typeIs_str _ _ _) (by decide +kernel) ?_)
  k_with "c_steps" => row_timed "to" (first | (with_reducible show InvEndN _ _ _ _ _ _ _) | (with_reducible show wpAny _ _ (exec (Stmt.While _ _ _ _) _) _ _ _) | (with_reducible show wpAny _ _ (subscriptTail (Expr.List _ _) _ (Value.ref _) (Value.int _ _)) _ _ _))
  trivial

/-- a call that reads objects of its caller's ledger -/
noncomputable def SpecX (w : World) (f : Addr) (d u : Nat) (args : List Value) (kw : List (Str × Value)) (as : List (Addr × Obj)) (Post : Heap → Value → Heap → Prop) : Prop :=
  ∀ (p : Program) (loose : List Str) (mean : ExcName → Option Value) (mg mb : Str → Option Value) (dp un : Nat) (fr : Option (List Env)) (gd : Option (List Code)) (s : Shared) (Q : Value → Shared → Prop) (E : Value → Shared → Prop) (g : Heap),
    Room (mkA dp un fr gd) d u → (hd.heap_1 w.params).In g → Top p loose mean mg mb g → g.StaysIn s.heap → (∀ q ∈ as, s.heap.get? q.1 = some q.2 ∧ g.get? q.1 = none) →
    (∀ v h' tk', Post s.heap v h' → Q v { s with heap := h', toks := tk' }) →
    wpAny (model PR w) (mkA dp un fr gd) (call (.ref f) args kw) Q E s

structure Bse (as : List (Addr × Obj)) (h b : Heap) : Prop where
  st : b.StaysIn h
  back : ∀ c o, h.get? c = some o → c ∉ as.map (·.1) → b.get? c = some o
  is : ∀ q ∈ as, h.get? q.1 = some q.2
theorem Bse.stays {as : List (Addr × Obj)} {h b h' : Heap} (B : Bse as h b) (k : b.StaysIn h') (n : ∀ q ∈ as, h'.get? q.1 = some q.2) : h.StaysIn h' := fun c o e => by
  by_cases hc : c ∈ as.map (·.1)
  · obtain ⟨q, hq, rfl⟩ := List.mem_map.mp hc
    have := B.is q hq; rw [this] at e; cases e; exact n q hq
  · exact k c o (B.back c o e hc)
theorem Bse.extBut {as : List (Addr × Obj)} {h b h' : Heap} {P : Addr} (B : Bse as h b) (k : b.StaysIn h') (n : ∀ q ∈ as, q.1 ≠ P → h'.get? q.1 = some q.2) : Heap.ExtBut P h h' := fun c o hne e => by
  by_cases hc : c ∈ as.map (·.1)
  · obtain ⟨q, hq, rfl⟩ := List.mem_map.mp hc
    have := B.is q hq; rw [this] at e; cases e; exact n q hq hne
  · exact k c o (B.back c o e hc)
theorem Bse.fresh {as : List (Addr × Obj)} {h b : Heap} (B : Bse as h b) {c : Addr} (e : b.get? c = none) (hc : c ∉ as.map (·.1)) : h.get? c = none := by
  cases q : h.get? c with
  | none => rfl
  | some o => rw [B.back c o q hc] at e; cases e

theorem callX {prog : Program} {w : World} {A : Around} {s : Shared} {K : Frag} {E : Value → Shared → Prop} {Q : Value → Shared → Prop} {p : Program} {loose : List Str} {mean : ExcName → Option Value} {mg mb : Str → Option Value}
    {name qual : Str} {params : Arguments} {body : List Stmt} {scope : Scope} {dV kV doc pm cdv ct oc : Value} {an od : Option Addr} {osl : Array (Option Value)} {f : Addr} {pos : List Value} {kw : List (Str × Value)} {binds : List (Str × Value)} {g : Heap} {as : List (Addr × Obj)}
    (XS : K.In s.heap) (X : K.In g) (T : Top p loose mean mg mb g) (hst : g.StaysIn s.heap) (has : ∀ q ∈ as, s.heap.get? q.1 = some q.2 ∧ g.get? q.1 = none)
    (ho : K.lookup f = some ⟨oc, od, .func (fnOf name qual params body scope dV kV doc pm an cdv ct), osl⟩) (hcd : codeIn K cdv qual = true) (hroom : A.depth < recursionLimit)
    (hbind : BindsTo s (fnOf name qual params body scope dV kV doc pm an cdv ct) ⟨pos, kw⟩ binds) (hloc : ∀ y ∈ binds, scope.names.lookup y.1 = some .local)
    (h : ∀ b L h₁ tk, Bse as s.heap b → K.In b → Top p loose mean mg mb b → Fr b L h₁ (fun y => binds.reverse.lookup y) → News b L h₁ as →
      wpAny (model prog w) (A.deeper (envOf qual scope L f cdv)) (execs body (envOf qual scope L f cdv))
        (fun fl s' => Q (match fl with | .ret v => v | _ => .none) s') (fun _ _ => False)
        { s with heap := h₁, toks := tk })
    (hco : scope.isCoroutine = false) (hgen : scope.isGenerator = false) (hk : scope.kind = .function)
    (hcell : ∀ x ∈ scope.names, x.2 ≠ .cell) : wpAny (model prog w) A (call (.ref f) pos kw) Q E s := by
  have hne : ∀ c o, g.get? c = some o → c ∉ as.map (·.1) := fun c o e hc => by
    obtain ⟨q, hq, rfl⟩ := List.mem_map.mp hc
    rw [(has q hq).2] at e; cases e
  obtain ⟨b, hb⟩ : ∃ b, b = hideAll s.heap (as.map (·.1)) := ⟨_, rfl⟩
  have hof : b.StaysIn s.heap := fun c o e => by rw [hb] at e; exact of_hideAll _ e
  have hget : ∀ c o, s.heap.get? c = some o → c ∉ as.map (·.1) → b.get? c = some o := fun c o e hc => by rw [hb]; exact hideAll_get _ e hc
  have hnone : ∀ c, c ∈ as.map (·.1) → b.get? c = none := fun c hc => by rw [hb]; exact hideAll_none _ hc
  have hsz : b.objs.size = s.heap.objs.size := by rw [hb]; exact hideAll_size _ _
  have hgb : ∀ c o, g.get? c = some o → b.get? c = some o := fun c o e => hget c o (hst c o e) (hne c o e)
  refine callP XS (T.keeps hst) ho hcd hroom hbind hloc (fun L h₁ tk F _ => ?_) hco hgen hk hcell
  refine h b L h₁ tk ⟨hof, hget, fun q hq => (has q hq).1⟩ (X.keeps hgb) (T.keeps hgb) ⟨F.ns, fun c o e => F.keep c o (hof _ _ e), by rw [hsz]; exact F.above⟩ fun q hq => ?_
  have hq1 := (has q hq).1
  exact ⟨F.keep _ _ hq1, Nat.ne_of_lt (Nat.lt_of_lt_of_le (Heap.lt_size hq1) F.above), hnone _ (List.mem_map_of_mem hq)⟩

theorem use_specX {w : World} {f : Addr} {d u : Nat} {args : List Value} {kw : List (Str × Value)} {as : List (Addr × Obj)} {Post : Heap → Value → Heap → Prop} {h₀ : Heap} {L : Addr} {m : Str → Option Value} {news : List (Addr × Obj)} {A : Around} {s : Shared}
    {p : Program} {loose : List Str} {mean : ExcName → Option Value} {mg mb : Str → Option Value} {Q E : Value → Shared → Prop}
    (S : SpecX w f d u args kw as Post) (R : Room A d u) (F : Fr h₀ L s.heap m) (N : News h₀ L s.heap news) (X : (hd.heap_1 w.params).In h₀) (T : Top p loose mean mg mb h₀) (has : ∀ q ∈ as, q ∈ news)
    (h : ∀ v h' tk', Post s.heap v h' → Q v { s with heap := h', toks := tk' }) :
    wpAny (model PR w) A (call (.ref f) args kw) Q E s := by
  obtain ⟨hd0, dp, fr, gd, un⟩ := A
  obtain rfl : hd0 = none := R.hh
  exact S p loose mean mg mb dp un fr gd s Q E h₀ R X T F.keep (fun q hq => ⟨(N q (has q hq)).1, (N q (has q hq)).2.2⟩) h
/-- a new object that a call has left goes onto the ledger -/
theorem News.onNew {h₀ h h' : Heap} {L : Addr} {m : Str → Option Value} {news : List (Addr × Obj)} {a : Addr} {o : Obj} (F : Fr h₀ L h m) (N : News h₀ L h' news) (hn : h.get? a = none) (h1 : h'.get? a = some o) (hs : h.StaysIn h') : News h₀ L h' ((a, o) :: news) := by
  intro q hq
  rcases List.mem_cons.mp hq with rfl | hq
  · refine ⟨h1, ?_, ?_⟩
    · rintro rfl
      obtain ⟨oL, _, _, hL, _⟩ := F.ns
      rw [hL] at hn; cases hn
    · cases e : h₀.get? a with
      | none => rfl
      | some o' => rw [F.keep _ _ e] at hn; cases hn
  · exact N q hq
theorem words_w_base2_1 : True := by
  k_with "c_enterX" => (
  w_top off
  refine' callX ?kS ?k1 ?k2 ?kst ?kas ?k6 ?k7 ?k8 ?k9 ?kB ?_ ?c2 ?c3 ?c4 ?c5
  (case kas => assumption)
  (case kst => assumption)
  (case k1 => assumption)
  (case k2 => assumption)
  (case kS => assumption)
  (case k6 => k_is)
  (case k7 => k_is)
  (case k8 => exact Room.roomy (by assumption))
  (case k9 => first | exact BindsTo.of_eq rfl | exact binds_K (by assumption) rfl (by k_is) rfl rfl rfl)
  (case kB => exact locs rfl)
  (case c2 => exact rfl)
  (case c3 => exact rfl)
  (case c4 => exact rfl)
  (case c5 => decide))
  trivial

theorem pat_43 {w : World} {h : Heap} (X : (hd.heap_1 w.params).In h) : Pat h 43 cTWIN7 0 0 := ⟨_, _, _, _, _, _, X 43 _ (by k_is), rfl, rfl, rfl, rfl, rfl, rfl, X 42 _ (by k_is), rfl, by decide +kernel⟩
theorem pat_55 {w : World} {h : Heap} (X : (hd.heap_1 w.params).In h) : Pat h 55 cTOKEN 1 0 := ⟨_, _, _, _, _, _, X 55 _ (by k_is), rfl, rfl, rfl, rfl, rfl, rfl, X 54 _ (by k_is), rfl, by decide +kernel⟩
theorem pat_60 {w : World} {h : Heap} (X : (hd.heap_1 w.params).In h) : Pat h 60 cQUOTED 1 0 := ⟨_, _, _, _, _, _, X 60 _ (by k_is), rfl, rfl, rfl, rfl, rfl, rfl, X 59 _ (by k_is), rfl, by decide +kernel⟩
theorem pat_65 {w : World} {h : Heap} (X : (hd.heap_1 w.params).In h) : Pat h 65 cVALUE 1 0 := ⟨_, _, _, _, _, _, X 65 _ (by k_is), rfl, rfl, rfl, rfl, rfl, rfl, X 64 _ (by k_is), rfl, by decide +kernel⟩
theorem pat_70 {w : World} {h : Heap} (X : (hd.heap_1 w.params).In h) : Pat h 70 cESC 1 0 := ⟨_, _, _, _, _, _, X 70 _ (by k_is), rfl, rfl, rfl, rfl, rfl, rfl, X 69 _ (by k_is), rfl, by decide +kernel⟩
theorem pat_82 {w : World} {h : Heap} (X : (hd.heap_1 w.params).In h) : Pat h 82 cJTOK 0 0 := ⟨_, _, _, _, _, _, X 82 _ (by k_is), rfl, rfl, rfl, rfl, rfl, rfl, X 81 _ (by k_is), rfl, by decide +kernel⟩
theorem pat_87 {w : World} {h : Heap} (X : (hd.heap_1 w.params).In h) : Pat h 87 cJESC 1 0 := ⟨_, _, _, _, _, _, X 87 _ (by k_is), rfl, rfl, rfl, rfl, rfl, rfl, X 86 _ (by k_is), rfl, by decide +kernel⟩
theorem pat_99 {w : World} {h : Heap} (X : (hd.heap_1 w.params).In h) : Pat h 99 cTWIN1 0 1 := ⟨_, _, _, _, _, _, X 99 _ (by k_is), rfl, rfl, rfl, rfl, rfl, rfl, X 98 _ (by k_is), rfl, by decide +kernel⟩
theorem Frag.In.at {K : Frag} {h₀ h : Heap} {L : Addr} {m : Str → Option Value} (X : K.In h₀) (F : Fr h₀ L h m) : K.In h := X.keeps F.keep
theorem words_w_re3_1 : True := by
  k_with "c_in" => exact Frag.In.at (by k_asm) (by k_asm)
  k_with "getMethod ref" => ((with_reducible show wpAny _ _ (getMethod (Value.ref 99) _ _) _ _ _); (refine method_pattern (pat_99 (Frag.In.at (by k_asm) (by k_asm))) slot_search type_search ?_))
  k_with "getMethod ref" => ((with_reducible show wpAny _ _ (getMethod (Value.ref 55) _ _) _ _ _); (refine method_pattern (pat_55 (Frag.In.at (by k_asm) (by k_asm))) slot_search type_search ?_))
  k_with "getMethod ref" => ((with_reducible show wpAny _ _ (getMethod (Value.ref 60) _ _) _ _ _); (refine method_pattern (pat_60 (Frag.In.at (by k_asm) (by k_asm))) slot_search type_search ?_))
  k_with "getMethod ref" => ((with_reducible show wpAny _ _ (getMethod (Value.ref 65) _ _) _ _ _); (refine method_pattern (pat_65 (Frag.In.at (by k_asm) (by k_asm))) slot_search type_search ?_))
  k_with "getMethod ref" => ((with_reducible show wpAny _ _ (getMethod (Value.ref 82) _ _) _ _ _); (refine method_pattern (pat_82 (Frag.In.at (by k_asm) (by k_asm))) slot_fullmatch type_fullmatch ?_))
  k_with "getMethod ref" => ((with_reducible show wpAny _ _ (getMethod (Value.ref 70) _ _) _ _ _); (refine method_pattern (pat_70 (Frag.In.at (by k_asm) (by k_asm))) slot_sub type_sub ?_))
  k_with "getMethod ref" => ((with_reducible show wpAny _ _ (getMethod (Value.ref 87) _ _) _ _ _); (refine method_pattern (pat_87 (Frag.In.at (by k_asm) (by k_asm))) slot_sub type_sub ?_))
  k_with "getMethod ref" => ((with_reducible show wpAny _ _ (getMethod (Value.ref 43) _ _) _ _ _); (refine method_pattern (pat_43 (Frag.In.at (by k_asm) (by k_asm))) slot_subn type_subn ?_))
  k_with "call builtin:re.Pattern.fullmatch" => first | (refine full_bare (by k_asm) (by k_asm) (pat_82 (by walk_at "c_in")) (by with_reducible assumption) (by with_reducible assumption) ?_; intro _ _ _ _ _ l1; (try k_lt l1)) | (refine full_care (pat_82 (by walk_at "c_in")) (by with_reducible assumption) (by with_reducible assumption) ?_)
  trivial

theorem s_b64_value (w : World) (c : Int) (t : Tok) : Spec w 148 1 5 [.int c t] [] (fun v _ => ∃ t', v = .int (b64v c) t') := by
  intro p loose mean mg mb dp un fr gd s Q E hR hX hT hQ
  walk_at "c_enter"
  intro L h₁ tk F N
  (try dsimp only)
  k_steps
  all_goals (refine hQ _ _ _ F.keep ⟨_, congrArg (Value.int · _) ?_⟩; simp only [b64v]; (repeat' split) <;> omega)
theorem s_hex_value (w : World) (c : Int) (t : Tok) : Spec w 180 1 5 [.int c t] [] (fun v _ => ∃ t', v = .int (hexv c) t') := by
  intro p loose mean mg mb dp un fr gd s Q E hR hX hT hQ
  walk_at "c_enter"
  intro L h₁ tk F N
  (try dsimp only)
  k_steps
  all_goals (refine hQ _ _ _ F.keep ⟨_, congrArg (Value.int · _) ?_⟩; simp only [hexv]; (repeat' split) <;> omega)
theorem s_buffer (w : World) (b : Array UInt8) (t : Tok) : Spec w 134 1 5 [.bytes b t] [] (fun v _ => v = .bytes b t) := by
  intro p loose mean mg mb dp un fr gd s Q E hR hX hT hQ
  walk_at "c_enter"
  intro L h₁ tk F N
  (try dsimp only)
  k_steps
  all_goals (refine hQ _ _ _ (by walk_at "c_keep") rfl)
theorem s_ascii_buffer (w : World) (b : Array UInt8) (t : Tok) : Spec w 127 1 5 [.bytes b t] [] (fun v _ => v = .bytes b t) := by
  intro p loose mean mg mb dp un fr gd s Q E hR hX hT hQ
  walk_at "c_enter"
  intro L h₁ tk F N
  (try dsimp only)
  k_steps
  all_goals (refine hQ _ _ _ (by walk_at "c_keep") rfl)
theorem s_truth (w : World) (b : Bool) : Spec w 141 1 5 [.bool b] [] (fun v _ => v = .bool b) := by
  intro p loose mean mg mb dp un fr gd s Q E hR hX hT hQ
  walk_at "c_enter"
  intro L h₁ tk F N
  (try dsimp only)
  k_steps
  all_goals (refine hQ _ _ _ (by walk_at "c_keep") ?_; simp_all)
theorem words_w_bin1_1 : True := by
  k_with "call ref" => ((with_reducible show wpAny _ _ (call (Value.ref 134) [Value.bytes _ _] _) _ _ _); (refine use_specE (s_buffer _ _ _) (by walk_at "c_room") (by k_asm) (by k_asm) (by k_asm) (by k_asm) ?_); intro _ _ _ _)
  k_with "call ref" => ((with_reducible show wpAny _ _ (call (Value.ref 127) [Value.bytes _ _] _) _ _ _); (refine use_specE (s_ascii_buffer _ _ _) (by walk_at "c_room") (by k_asm) (by k_asm) (by k_asm) (by k_asm) ?_); intro _ _ _ _)
  k_with "call ref" => ((with_reducible show wpAny _ _ (call (Value.ref 141) [Value.bool _] _) _ _ _); (refine use_specE (s_truth _ _) (by walk_at "c_room") (by k_asm) (by k_asm) (by k_asm) (by k_asm) ?_); intro _ _ _ _)
  k_with "call ref" => ((with_reducible show wpAny _ _ (call (Value.ref 148) [Value.int _ _] _) _ _ _); (refine use_specV (s_b64_value _ _ _) (by walk_at "c_room") (by k_asm) (by k_asm) (by k_asm) (by k_asm) ?_); intro _ _ _ _ _)
  k_with "call ref" => ((with_reducible show wpAny _ _ (call (Value.ref 180) [Value.int _ _] _) _ _ _); (refine use_specV (s_hex_value _ _ _) (by walk_at "c_room") (by k_asm) (by k_asm) (by k_asm) (by k_asm) ?_); intro _ _ _ _ _)
  trivial

theorem fitem {prog : Program} {w : World} {A : Around} {E Q : Value → Shared → Prop} {s : Shared} {i : Int} {t ui : Tok} {value slice : Expr} (h0 : 0 ≤ i) (h1 : i < 64)
    (h : ∀ t' k, Q (.int (b64c i) t') { s with toks := k })
    (hs : subscripted slice false (.bytes (bz B64L) t) (.int i ui) = operate [.bytes (bz B64L) t, .int i ui] (getItem (.bytes (bz B64L) t) (.int i ui)) := by with_unfolding_all rfl)
    (ht : ∀ r, letTemporaryGo value (.bytes (bz B64L) t) r = pure () := by intro _; with_unfolding_all rfl) : wpAny (model prog w) A (subscriptTail value slice (.bytes (bz B64L) t) (.int i ui)) Q E s :=
  KBw.item_K (ks := B64L) (bInts_bz (by unfold Oct; decide)) (by decide) h0 (by exact h1) (fun t' k _ _ => h t' k) hs ht
theorem ev_b64 {w : World} {A : Around} {E : Value → Shared → Prop} {h₀ : Heap} {m : Str → Option Value} {qual : Str} {cs : Scope} {L a : Addr} {ccd : Value} {p : Program} {loose : List Str} {mean : ExcName → Option Value} {mg mb : Str → Option Value} {p1 p2 : Pos} {e : Expr} {i : Int}
    (X : (hd.heap_1 w.params).In h₀) (T : Top p loose mean mg mb h₀) (c : EvI PR w A E h₀ m (envOf qual cs L a ccd) e i) (h0 : 0 ≤ i) (h1 : i < 64) (hk : cs.kind = .function := by rfl) (hx : (envOf qual cs L a ccd).kindOf (Str.ofString "_B64") = some .globalImplicit := by rfl)
    (hs : ∀ t u, subscripted e false (.bytes (bz B64L) t) (.int i u) = operate [.bytes (bz B64L) t, .int i u] (getItem (.bytes (bz B64L) t) (.int i u)) := by intro _ _; with_unfolding_all rfl) :
    EvI PR w A E h₀ m (envOf qual cs L a ccd) (.Subscript (.Name (Str.ofString "_B64") p1) e p2) (b64c i) := ⟨fun Q s F h => by
  refine Subscript_ ?_
  refine' nameX_K F X (topRead_of T) (by k_is) ?_ hk hx (by decide)
  refine c.run _ _ F fun t k => ?_
  exact fitem h0 h1 (fun t' k' => h _ _) (hs _ _)⟩
theorem and_hi63 (x : Int) : Builtin.bitAnd x 63 < 64 := by rw [bitAnd_m6]; exact Int.emod_lt_of_pos _ (by decide)
theorem and_lo63 (x : Int) : 0 ≤ Builtin.bitAnd x 63 := by rw [bitAnd_m6]; exact Int.emod_nonneg _ (by decide)
theorem words_w_b2a_1 : True := by
  k_with "c_ext" => (refine' ev_b64 (by k_asm) (by k_asm) ?zc ?z0 ?z1; (case zc => walk_at "c_ev"); (case z0 => walk_at "c_idx"); (case z1 => walk_at "c_idx"))
  k_with "subscriptTail" => ((with_reducible show wpAny _ _ (subscriptTail (Expr.Name (Str.ofString "_B64") _) _ (Value.bytes _ _) (Value.int _ _)) _ _ _); (refine fitem (by walk_at "c_idx") (by walk_at "c_idx") ?_); intro _ _)
  k_with "c_idx" => (first | with_reducible assumption | with_reducible exact and_lo63 _ | with_reducible exact and_hi63 _ | decide | omega | ((try simp only [bitAnd_m6, bitAnd_m4, bitAnd_m2, bitAnd_m16, Int.reduceToNat, Int.reducePow, Int.reduceSub, Int.reduceAdd]); omega))
  k_with "binaryOp LShift int int" => (refine lshift_int_small (by decide) (by decide) (by walk_at "c_idx") ?_)
  trivial
theorem nat_lt16 {x k : Int} (h0 : 0 ≤ x) (h : x < k) (hk : k ≤ 65536) : x.natAbs < 2 ^ 64 := by omega
theorem b_sz {v x p l s : Nat} (h1 : v = x) (h2 : x ≤ 2 * p) (h3 : p ≤ l) (h4 : l = s) (h5 : s ≤ 5000) : v ≤ 20000 := by omega
theorem len_1 {a b : Nat} (h : a ≤ 2 * b) : a + 1 ≤ 2 * (b + 1) := by omega
theorem len_2 {a b : Nat} (h : a ≤ 2 * b) : a + 2 ≤ 2 * (b + 1) := by omega
theorem em_4 {o : Int} (x : Int) : (x * 256 + o) % 65536 % 4 = o % 4 := by rw [Int.emod_emod_of_dvd _ (by decide)]; omega
theorem em_16 {o : Int} (x : Int) : (x * 256 + o) % 65536 % 16 = o % 16 := by rw [Int.emod_emod_of_dvd _ (by decide)]; omega
theorem em_64 {o : Int} (x : Int) : (x * 256 + o) % 65536 / 1 % 64 = o % 64 := by rw [Int.ediv_one, Int.emod_emod_of_dvd _ (by decide)]; omega
theorem dv_4 {o x : Int} (h0 : 0 ≤ o) (h1 : o < 256) : (x * 256 + o) % 65536 / 4 % 64 = o / 4 := by omega
theorem dv_16 {o x y : Int} (h0 : 0 ≤ o) (h1 : o < 256) (h : x % 4 = y) : (x * 256 + o) % 65536 / 16 % 64 = y * 16 + o / 16 := by omega
theorem dv_64 {o x y : Int} (h0 : 0 ≤ o) (h1 : o < 256) (h : x % 16 = y) : (x * 256 + o) % 65536 / 64 % 64 = y * 4 + o / 64 := by omega
theorem sh_4 {x : Int} (h : 0 ≤ x ∧ x < 4) : 0 ≤ x * 16 ∧ x * 16 < 64 := by omega
theorem sh_2 {x : Int} (h : 0 ≤ x ∧ x < 16) : 0 ≤ x * 4 ∧ x * 4 < 64 := by omega
/-- the state of b2a_base64's loop -/
structure BInv (pre xs : List Int) (lc lb : Int) : Prop where
  hxs : xs = (fold64 pre).1.map b64c
  hlen : xs.length ≤ 2 * pre.length
  h0 : 0 ≤ lc
  h1 : lc < 65536
  hlb : ((fold64 pre).2.1 = 0 ∧ lb = 0) ∨ ((fold64 pre).2.1 = 1 ∧ lb = 2 ∧ lc % 4 = (fold64 pre).2.2) ∨ ((fold64 pre).2.1 = 2 ∧ lb = 4 ∧ lc % 16 = (fold64 pre).2.2)
theorem BInv.start : BInv [] [] 0 0 := ⟨rfl, Nat.le_refl _, Int.le_refl _, by decide, .inl ⟨rfl, rfl⟩⟩
/-- the next octet -/
inductive BWay (pre xs : List Int) (lc o : Int) : Int → Prop
  | w0 (h0 : 0 ≤ lc) (hl : lc.natAbs < 2 ^ 64) (e : BInv (pre ++ [o]) (xs ++ [b64c (Builtin.bitAnd ((Builtin.bitAnd (Builtin.bitOr (lc * 2 ^ Int.toNat 8) o) 65535).fdiv (2 ^ Int.toNat 2)) 63)]) (Builtin.bitAnd (Builtin.bitOr (lc * 2 ^ Int.toNat 8) o) 65535) 2) : BWay pre xs lc o 0
  | w1 (h0 : 0 ≤ lc) (hl : lc.natAbs < 2 ^ 64) (e : BInv (pre ++ [o]) (xs ++ [b64c (Builtin.bitAnd ((Builtin.bitAnd (Builtin.bitOr (lc * 2 ^ Int.toNat 8) o) 65535).fdiv (2 ^ Int.toNat 4)) 63)]) (Builtin.bitAnd (Builtin.bitOr (lc * 2 ^ Int.toNat 8) o) 65535) 4) : BWay pre xs lc o 2
  | w2 (h0 : 0 ≤ lc) (hl : lc.natAbs < 2 ^ 64) (e : BInv (pre ++ [o]) (xs ++ [b64c (Builtin.bitAnd ((Builtin.bitAnd (Builtin.bitOr (lc * 2 ^ Int.toNat 8) o) 65535).fdiv (2 ^ Int.toNat 6)) 63)] ++ [b64c (Builtin.bitAnd ((Builtin.bitAnd (Builtin.bitOr (lc * 2 ^ Int.toNat 8) o) 65535).fdiv (2 ^ Int.toNat 0)) 63)]) (Builtin.bitAnd (Builtin.bitOr (lc * 2 ^ Int.toNat 8) o) 65535) 0) : BWay pre xs lc o 4
theorem BInv.way {pre xs : List Int} {lc lb o : Int} (P : BInv pre xs lc lb) (h0 : 0 ≤ o) (h256 : o < 256) : BWay pre xs lc o lb := by
  obtain ⟨hxs, hlen, hlc0, hlc1, hlb⟩ := P
  have hab := nat_lt16 hlc0 hlc1 (Int.le_refl _)
  have hn := lc_next hlc0 h0 h256
  have r0 : 0 ≤ (lc * 256 + o) % 65536 := Int.emod_nonneg _ (by decide)
  have r1 : (lc * 256 + o) % 65536 < 65536 := Int.emod_lt_of_pos _ (by decide)
  have l1 : ∀ x : Int, (xs ++ [x]).length ≤ 2 * (pre ++ [o]).length := fun x => by rw [List.length_append, List.length_append]; exact len_1 hlen
  have l2 : ∀ x y : Int, (xs ++ [x] ++ [y]).length ≤ 2 * (pre ++ [o]).length := fun x y => by rw [List.length_append, List.length_append, List.length_append]; exact len_2 hlen
  rcases hlb with ⟨hph, rfl⟩ | ⟨hph, rfl, hh⟩ | ⟨hph, rfl, hh⟩
  · refine .w0 hlc0 hab ?_
    rw [hn, idx_of, show ((2 : Int) ^ Int.toNat 2) = 4 from rfl, dv_4 h0 h256]
    refine ⟨?_, l1 _, r0, r1, .inr (.inl ⟨by rw [step_0 hph], rfl, by rw [step_0 hph]; exact em_4 _⟩)⟩
    rw [step_0 hph, List.map_append, hxs]; rfl
  · refine .w1 hlc0 hab ?_
    rw [hn, idx_of, show ((2 : Int) ^ Int.toNat 4) = 16 from rfl, dv_16 h0 h256 hh]
    refine ⟨?_, l1 _, r0, r1, .inr (.inr ⟨by rw [step_1 hph], rfl, by rw [step_1 hph]; exact em_16 _⟩)⟩
    rw [step_1 hph, List.map_append, hxs]; rfl
  · refine .w2 hlc0 hab ?_
    rw [hn, idx_of, idx_of, show ((2 : Int) ^ Int.toNat 6) = 64 from rfl, show ((2 : Int) ^ Int.toNat 0) = 1 from rfl, dv_64 h0 h256 hh, em_64]
    refine ⟨?_, l2 _ _, r0, r1, .inl ⟨by rw [step_2 hph], rfl⟩⟩
    rw [step_2 hph, List.map_append, hxs, List.append_assoc]; rfl
/-- the loop's end -/
inductive BFin (ks xs : List Int) (lc : Int) : Int → Prop
  | f0 (ho : Oct xs) (e : bz xs = bz (enc64 ks)) : BFin ks xs lc 0
  | f1 (h0 : 0 ≤ Builtin.bitAnd lc 3) (hl : (Builtin.bitAnd lc 3).natAbs < 2 ^ 64) (i0 : 0 ≤ Builtin.bitAnd lc 3 * 2 ^ Int.toNat 4) (i1 : Builtin.bitAnd lc 3 * 2 ^ Int.toNat 4 < 64)
    (ho : Oct (xs ++ [b64c (Builtin.bitAnd lc 3 * 2 ^ Int.toNat 4), 61, 61])) (e : bz (xs ++ [b64c (Builtin.bitAnd lc 3 * 2 ^ Int.toNat 4), 61, 61]) = bz (enc64 ks)) : BFin ks xs lc 2
  | f2 (h0 : 0 ≤ Builtin.bitAnd lc 15) (hl : (Builtin.bitAnd lc 15).natAbs < 2 ^ 64) (i0 : 0 ≤ Builtin.bitAnd lc 15 * 2 ^ Int.toNat 2) (i1 : Builtin.bitAnd lc 15 * 2 ^ Int.toNat 2 < 64)
    (ho : Oct (xs ++ [b64c (Builtin.bitAnd lc 15 * 2 ^ Int.toNat 2), 61])) (e : bz (xs ++ [b64c (Builtin.bitAnd lc 15 * 2 ^ Int.toNat 2), 61]) = bz (enc64 ks)) : BFin ks xs lc 4
theorem BInv.fin {ks xs : List Int} {lc lb : Int} (P : BInv ks xs lc lb) (hk : Oct ks) : BFin ks xs lc lb := by
  obtain ⟨hxs, _, _, _, hlb⟩ := P
  have h8 := f64 ks hk
  rcases hlb with ⟨hph, rfl⟩ | ⟨hph, rfl, hh⟩ | ⟨hph, rfl, hh⟩
  · exact .f0 (by rw [hxs]; exact enc_oct h8) (by rw [hxs]; exact fin_0 hph)
  · have e : Builtin.bitAnd lc 3 = (fold64 ks).2.2 := by rw [bitAnd_m2]; exact hh
    have r0 : 0 ≤ (fold64 ks).2.2 := by rw [← hh]; exact Int.emod_nonneg _ (by decide)
    have r1 : (fold64 ks).2.2 < 4 := by rw [← hh]; exact Int.emod_lt_of_pos _ (by decide)
    have s := sh_4 ⟨r0, r1⟩
    refine .f1 ?_ ?_ ?_ ?_ ?_ ?_ <;> rw [e]
    · exact r0
    · exact nat_lt16 r0 r1 (by decide)
    · exact s.1
    · exact s.2
    · rw [hxs]; exact oct_app (enc_oct h8) (oct_app3 (b64c_in _ s.1 s.2))
    · rw [hxs]; exact fin_1 hph
  · have e : Builtin.bitAnd lc 15 = (fold64 ks).2.2 := by rw [bitAnd_m4]; exact hh
    have r0 : 0 ≤ (fold64 ks).2.2 := by rw [← hh]; exact Int.emod_nonneg _ (by decide)
    have r1 : (fold64 ks).2.2 < 16 := by rw [← hh]; exact Int.emod_lt_of_pos _ (by decide)
    have s := sh_2 ⟨r0, r1⟩
    refine .f2 ?_ ?_ ?_ ?_ ?_ ?_ <;> rw [e]
    · exact r0
    · exact nat_lt16 r0 r1 (by decide)
    · exact s.1
    · exact s.2
    · rw [hxs]; exact oct_app (enc_oct h8) (oct_app2 (b64c_in _ s.1 s.2))
    · rw [hxs]; exact fin_2 hph
structure B2 where
  lc : Int
  t1 : Tok
  lb : Int
  t2 : Tok
  vs : List Value
  xs : List Int
  n : Nat
theorem s_b2a (w : World) (b : Array UInt8) (t : Tok) (hb : b.size ≤ 5000) : Spec w 164 2 15 [.bytes b t] [("newline", .bool false)] (fun v _ => ∃ t', v = .bytes (bz (enc64 (KBw.bInts b))) t') := by
  intro p loose mean mg mb dp un fr gd s Q E hR hX hT hQ
  walk_at "c_enter"
  intro L h₁ tk F N
  replace F : Fr s.heap L h₁ (fun y => List.lookup y [(Str.ofString "newline", Value.bool false), (Str.ofString "data", Value.bytes b t)]) := F
  (try dsimp only)
  k_steps
  rename_i l' _ _ _ _ _ _ _ _ _ _ _ F' N'
  refine' KStb.kst_bytes (σ := B2) (fun c => [(l', W.listOf c.vs.toArray c.n)]) (fun c => [(Str.ofString "leftchar", .int c.lc c.t1), (Str.ofString "leftbits", .int c.lb c.t2)]) (fun c => IntsAre c.vs c.xs) [] (fun pre c => BInv pre c.xs c.lc c.lb) ⟨0, _, 0, _, [], [], 0⟩ rfl rfl rfl F' ?kn ?kf ?kk ?kp ?_ ?_
  (case kn => exact N')
  (case kk => kst_all)
  (case kf => exact IntsAre.nil)
  (case kp => exact BInv.start)
  · clear F' N'
    rintro ⟨lc, t1, lb, t2, vs, xs, n⟩ pre post o t' u h tk' own e hlt h0 h256 hoff hf hP
    have kM := kstMark
    dsimp only at hf hP
    have hsz : vs.length ≤ 20000 := b_sz hf.length hP.hlen (Nat.le_of_lt hlt) (KBw.ints_length b) hb
    have hsz0 := sz_ok hsz
    replace hoff : OwnOff own [l'] := hoff
    cases BInv.way hP h0 h256
    all_goals intro F1 N1
    all_goals dsimp only at F1 N1 ⊢
    all_goals replace F1 := kst_nilx F1
    all_goals dsimp only [kstB] at F1
    all_goals replace N1 : News s.heap L _ ((l', W.listOf vs.toArray n) :: own) := N1
    all_goals clear hP e
    all_goals k_steps
    all_goals (rename News _ _ _ _ => nE); (try replace nE := News.pushed2l nE); (try replace nE := News.pushed nE)
    all_goals refine kst_end (σ := B2) ⟨_, _, _, _, _, _, _⟩ (by assumption) nE (by first | kst_in | kst_inAny) (by first | (intro p hp; kst_mem) | kst_anyIn) (by rfl) (by kst_facts) (by kst_all) (by kst_same) ?_
    all_goals assumption
  · clear F' N'
    rintro ⟨lc, t1, lb, t2, vs, xs, n⟩ u h tk' hlt hf hP
    have kM := kstMark
    dsimp only at hf hP
    have hsz : vs.length ≤ 20000 := b_sz hf.length hP.hlen (Nat.le_refl _) (KBw.ints_length b) hb
    have hsz0 := sz_ok hsz
    cases BInv.fin hP (oct_bInts b)
    all_goals intro F1 N1
    all_goals dsimp only at F1 N1 ⊢
    all_goals replace F1 := kst_nilx F1
    all_goals dsimp only [kstB] at F1
    all_goals replace N1 : News s.heap L _ [(l', W.listOf vs.toArray n)] := N1
    all_goals clear hP
    · k_steps
      (rename News _ _ _ _ => nE); (rename Fr _ _ _ _ => fE)
      exact hQ _ _ _ fE.keep ⟨_, congrArg (Value.bytes · _) (by assumption)⟩
    · k_steps
      (rename News _ _ _ _ => nE); (rename Fr _ _ _ _ => fE)
      replace nE := News.pushed3 nE
      refine bytes_K fE nE (News.isList nE (.head _)) (IntsAre.append hf (.cons _ _ (.cons _ _ (.cons _ _ .nil)))) (by assumption) (sz_ok3 hsz) rfl ?_
      intro h9 t9 k9 F9 _ _
      walk_at "c_out"
      exact hQ _ _ _ F9.keep ⟨t9, congrArg (Value.bytes · _) (by assumption)⟩
    · k_steps
      (rename News _ _ _ _ => nE); (rename Fr _ _ _ _ => fE)
      replace nE := News.pushed2 nE
      refine bytes_K fE nE (News.isList nE (.head _)) (IntsAre.append hf (.cons _ _ (.cons _ _ .nil))) (by assumption) (sz_ok2 hsz) rfl ?_
      intro h9 t9 k9 F9 _ _
      walk_at "c_out"
      exact hQ _ _ _ F9.keep ⟨t9, congrArg (Value.bytes · _) (by assumption)⟩

theorem words_w_bin2_1 : True := by
  k_with "getMethod bytes" => ((with_reducible show wpAny _ _ (getMethod (Value.bytes _ _) (Str.ofString "translate") _) _ _ _); refine KBd.method_of _ (typeIs_bytes _ _ _) slot_translate type_translate KBd.noRef ?_)
  k_with "getMethod bytes" => ((with_reducible show wpAny _ _ (getMethod (Value.bytes _ _) (Str.ofString "upper") _) _ _ _); refine KBd.method_of _ (typeIs_bytes _ _ _) slot_upper type_upper KBd.noRef ?_)
  k_with "getMethod bytes" => ((with_reducible show wpAny _ _ (getMethod (Value.bytes _ _) (Str.ofString "hex") _) _ _ _); refine KBd.method_of _ (typeIs_bytes _ _ _) FB.slot_bytes_hex FB.type_bytes_hex KBd.noRef ?_)
  k_with "getMethod bytes" => ((with_reducible show wpAny _ _ (getMethod (Value.bytes _ _) (Str.ofString "decode") _) _ _ _); refine KBd.method_of _ (typeIs_bytes _ _ _) FB.slot_bytes_decode FB.type_bytes_decode KBd.noRef ?_)
  k_with "getMethod str" => ((with_reducible show wpAny _ _ (getMethod (Value.str _ _) (Str.ofString "encode") _) _ _ _); refine getMethod_builtin (typeIs_str _ _ _) PySem.F.plainAttrs_str PySem.F.slot_str_encode PySem.F.type_str_encode (by intro _ e; cases e) ?_)
  trivial
theorem s_b64encode (w : World) (b : Array UInt8) (t : Tok) (hb : b.size ≤ 5000) : Spec w 195 3 20 [.bytes b t] [] (fun v _ => ∃ t', v = .bytes (bz (enc64 (KBw.bInts b))) t') := by
  intro p loose mean mg mb dp un fr gd s Q E hR hX hT hQ
  walk_at "c_enter"
  intro L h₁ tk F N
  replace F : Fr s.heap L h₁ (fun y => List.lookup y [(Str.ofString "altchars", Value.none), (Str.ofString "s", Value.bytes b t)]) := F
  (try dsimp only)
  k_steps
  refine use_specV (s_b2a _ _ _ hb) (by walk_at "c_room") (by k_asm) (by k_asm) (by k_asm) (by k_asm) ?_
  intro t' h' tk' F' N'
  k_steps
  walk_at "c_out"
  exact hQ _ _ _ (by walk_at "c_keep") ⟨_, rfl⟩
theorem s_urlenc (w : World) (b : Array UInt8) (t : Tok) (hb : b.size ≤ 5000) : Spec w 210 4 25 [.bytes b t] [] (fun v _ => ∃ t', v = .bytes (bz (encU (KBw.bInts b))) t') := by
  intro p loose mean mg mb dp un fr gd s Q E hR hX hT hQ
  walk_at "c_enter"
  intro L h₁ tk F N
  replace F : Fr s.heap L h₁ (fun y => List.lookup y [(Str.ofString "s", Value.bytes b t)]) := F
  (try dsimp only)
  k_steps
  refine use_specV (s_b64encode _ _ _ hb) (by walk_at "c_room") (by k_asm) (by k_asm) (by k_asm) (by k_asm) ?_
  intro t' h' tk' F' N'
  k_steps
  refine call_translate (by rfl) (by simp only [bz, List.size_toArray, List.length_map]; have := enc64_len (oct_bInts b); have := KBw.ints_length b; omega) ?_
  intro t' tk'
  k_steps
  walk_at "c_out"
  exact hQ _ _ _ (by walk_at "c_keep") ⟨_, congrArg (Value.bytes · _) (trans_lit (by rfl) (by decide +kernel) (enc64_oct (oct_bInts b)))⟩
theorem s_b2ahex (w : World) (b : Array UInt8) (t : Tok) (hb : b.size ≤ 5000) : Spec w 173 2 15 [.bytes b t] [] (fun v _ => ∃ t', v = .bytes (asB (hexs b)) t') := by
  intro p loose mean mg mb dp un fr gd s Q E hR hX hT hQ
  walk_at "c_enter"
  intro L h₁ tk F N
  replace F : Fr s.heap L h₁ (fun y => List.lookup y [(Str.ofString "bytes_per_sep", Value.int 1 _), (Str.ofString "sep", Value.ref 165), (Str.ofString "data", Value.bytes b t)]) := F
  (try dsimp only)
  k_steps
  refine call_hex (by omega) ?_
  intro t' tk'
  k_steps
  refine call_encode (hex_asc b) (by rw [hex_size]; omega) ?_
  intro t' tk'
  walk_at "c_out"
  exact hQ _ _ _ (by walk_at "c_keep") ⟨_, rfl⟩
theorem s_b16enc (w : World) (b : Array UInt8) (t : Tok) (hb : b.size ≤ 5000) : Spec w 224 3 20 [.bytes b t] [] (fun v _ => ∃ t', v = .bytes (bz (enc16 (KBw.bInts b))) t') := by
  intro p loose mean mg mb dp un fr gd s Q E hR hX hT hQ
  walk_at "c_enter"
  intro L h₁ tk F N
  replace F : Fr s.heap L h₁ (fun y => List.lookup y [(Str.ofString "s", Value.bytes b t)]) := F
  (try dsimp only)
  k_steps
  refine use_specV (s_b2ahex _ _ _ hb) (by walk_at "c_room") (by k_asm) (by k_asm) (by k_asm) (by k_asm) ?_
  intro t' h' tk' F' N'
  k_steps
  refine call_upper (by unfold asB; rw [Array.size_map, hex_size]; omega) ?_
  intro t' tk'
  walk_at "c_out"
  exact hQ _ _ _ (by walk_at "c_keep") ⟨_, congrArg (Value.bytes · _) (hex_up b)⟩

section
structure A2 where
  q : Int
  t1 : Tok
  lc : Int
  t2 : Tok
  pd : Int
  t3 : Tok
  i : Int
  t4 : Tok
  vs : List Value
  xs : List Int
  n : Nat
theorem s_a2b (w : World) (ks : List Int) (hk : Oct ks) (t : Tok) (st : Bool) (hb : ks.length ≤ 5000) : Spec w 156 2 15 [.bytes (bz (enc64 ks)) t] [("strict_mode", .bool st)] (fun v _ => ∃ t', v = .bytes (bz ks) t') := by
  intro p loose mean mg mb dp un fr gd s Q E hR hX hT hQ
  walk_at "c_enter"
  intro L h₁ tk F N
  replace F : Fr s.heap L h₁ (fun y => List.lookup y [(Str.ofString "strict_mode", Value.bool st), (Str.ofString "data", Value.bytes (bz (enc64 ks)) t)]) := F
  (try dsimp only)
  have hks := bInts_bz (enc64_oct hk)
  k_steps
  rename_i l' _ _ _ _ _ _ _ _ _ _ _ _ _ _ _ _ _ F' N'
  refine' KStb.kst_bytes (σ := A2) (fun c => [(l', W.listOf c.vs.toArray c.n)]) (fun c => [(Str.ofString "quad_pos", .int c.q c.t1), (Str.ofString "leftchar", .int c.lc c.t2), (Str.ofString "pads", .int c.pd c.t3), (Str.ofString "i", .int c.i c.t4)]) (fun c => IntsAre c.vs c.xs) []
    (fun pre c => AInv ks pre c.xs c.q c.lc c.pd) ⟨0, _, 0, _, 0, _, 0, _, [], [], 0⟩ hks rfl rfl F' ?kn ?kf ?kk ?kp ?_ ?_
  (case kn => exact N')
  (case kk => kst_all)
  (case kf => exact IntsAre.nil)
  (case kp => exact AInv.start)
  · clear F' N'
    rintro ⟨q, t1, lc, t2, pd, t3, i, t4, vs, xs, n⟩ pre post o t' u h tk' own e hlt h0 h256 hoff hf hP
    have kM := kstMark
    dsimp only at hf hP
    have hvl := hf.length
    replace hoff : OwnOff own [l'] := hoff
    cases AInv.way hP hk hb e with
    | dig h61 hb0 hb64 hl0 hl hn e0 e1 e2 e3 =>
      intro F1 N1
      dsimp only at F1 N1 ⊢
      replace F1 := kst_nilx F1
      dsimp only [kstB] at F1
      replace N1 : News s.heap L _ ((l', W.listOf vs.toArray n) :: own) := N1
      have hsz : vs.toArray.size ≤ sizeLine := sz_ok (by omega)
      clear hP hk hks e hvl hn
      k_steps
      all_goals (rename News _ _ _ _ => nE); (try replace nE := News.pushed nE)
      all_goals refine kst_end (σ := A2) ⟨_, _, _, _, _, _, _, _, _, _, _⟩ (by assumption) nE (by first | kst_in | kst_inAny) (by first | (intro p hp; kst_mem) | kst_anyIn) (by rfl) (by kst_facts) (by kst_all) (by kst_same) ?_
      all_goals first | exact e0 (by assumption) | exact e1 (by assumption) | exact e2 (by assumption) | exact e3 (by assumption) (by assumption) (by assumption)
    | pad pd h61 h2 h4 e1 =>
      intro F1 N1
      dsimp only at F1 N1 ⊢
      replace F1 := kst_nilx F1
      dsimp only [kstB] at F1
      replace N1 : News s.heap L _ ((l', W.listOf vs.toArray n) :: own) := N1
      clear hP hk hks e hvl
      subst h61
      k_steps
      (rename News _ _ _ _ => nE)
      refine kst_end (σ := A2) ⟨_, _, _, _, _, _, _, _, _, _, _⟩ (by assumption) nE (by first | kst_in | kst_inAny) (by first | (intro p hp; kst_mem) | kst_anyIn) (by rfl) (by kst_facts) (by kst_all) (by kst_same) ?_
      exact e1
  · clear F' N'
    rintro ⟨q, t1, lc, t2, pd, t3, i, t4, vs, xs, n⟩ u h tk' hlt hf hP F1 N1
    have kM := kstMark
    dsimp only at hf hP F1 N1 ⊢
    have hA := AInv.fin hP hk
    have hq1 := hA.n1
    have hqf := hA.fin
    have hsz : vs.length ≤ 20000 := by rw [hf.length, hA.x]; omega
    replace F1 := kst_nilx F1
    dsimp only [kstB] at F1
    replace N1 : News s.heap L _ [(l', W.listOf vs.toArray n)] := N1
    k_steps
    all_goals (rename News _ _ _ _ => nE); (rename Fr _ _ _ _ => fE)
    all_goals refine bytes_K fE nE (ns := ks) (News.isList nE (.head _)) (by rw [← hA.x]; exact hf) hk (by rw [sizeLine_eq]; omega) rfl ?_
    all_goals intro h9 t9 k9 F9 _ _
    all_goals walk_at "c_out"
    all_goals exact hQ _ _ _ F9.keep ⟨t9, rfl⟩
end

section
theorem s_bfd_str (w : World) (x : Str) (hx : Asc x) (hz : x.cps.size ≤ 20000) (t : Tok) : Spec w 107 1 10 [.str x t] [] (fun v _ => ∃ t', v = .bytes (asB x) t') := by
  intro p loose mean mg mb dp un fr gd s Q E hR hX hT hQ
  walk_at "c_enter"
  intro L h₁ tk F N
  replace F : Fr s.heap L h₁ (fun y => List.lookup y [(Str.ofString "s", Value.str x t)]) := F
  (try dsimp only)
  k_steps
  refine call_encode hx (by omega) ?_
  intro t' tk'
  k_steps
  exact hQ _ _ _ (by walk_at "c_keep") ⟨_, rfl⟩
theorem s_bfd_bytes (w : World) (b : Array UInt8) (t : Tok) : Spec w 107 1 10 [.bytes b t] [] (fun v _ => v = .bytes b t) := by
  intro p loose mean mg mb dp un fr gd s Q E hR hX hT hQ
  walk_at "c_enter"
  intro L h₁ tk F N
  replace F : Fr s.heap L h₁ (fun y => List.lookup y [(Str.ofString "s", Value.bytes b t)]) := F
  (try dsimp only)
  k_steps
  exact hQ _ _ _ (by walk_at "c_keep") rfl
structure H2 where
  i : Int
  t1 : Tok
  vs : List Value
  xs : List Int
  n : Nat
theorem s_a2bhex (w : World) (ks : List Int) (hk : Oct ks) (t : Tok) (hb : ks.length ≤ 5000) : Spec w 187 2 15 [.bytes (bz (enc16 ks)) t] [] (fun v _ => ∃ t', v = .bytes (bz ks) t') := by
  intro p loose mean mg mb dp un fr gd s Q E hR hX hT hQ
  walk_at "c_enter"
  intro L h₁ tk F N
  replace F : Fr s.heap L h₁ (fun y => List.lookup y [(Str.ofString "hexstr", Value.bytes (bz (enc16 ks)) t)]) := F
  (try dsimp only)
  have hks := bInts_bz (enc16_as hk).oct
  have hel := enc16_len ks
  walk_at "c_steps"
  rename_i l' _ _ _ _ _ _ _ _ F' N'
  refine' ksw_while (σ := H2) (fun c => [(l', W.listOf c.vs.toArray c.n)]) (fun c => [(Str.ofString "i", .int c.i c.t1)]) (fun c => IntsAre c.vs c.xs) [Str.ofString "top", Str.ofString "bot"]
    (fun c => ∃ j : Nat, c.i = 2 * (j : Int) ∧ j ≤ ks.length ∧ c.xs = ks.take j) (fun c => (2 * (ks.length : Int) - c.i).toNat) ⟨0, _, [], [], 0⟩ F' ?kn ?kf ?kk ?kp ?_
  (case kn => exact N')
  (case kk => kst_all)
  (case kf => exact IntsAre.nil)
  (case kp => exact ⟨0, rfl, by omega, rfl⟩)
  rintro ⟨i, t1, vs, xs, n⟩ u h tk' hf ⟨j, hi, hj, hxs⟩ F1 N1
  clear F' N'
  dsimp only at *
  have hvl := hf.length
  have hsz : vs.length ≤ 20000 := by rw [hvl, hxs, List.length_take]; omega
  simp only [kstB, List.contains_cons, List.contains_nil, Bool.or_false] at F1
  by_cases hlt : j < ks.length
  · have ho := List.getElem?_eq_getElem hlt
    have hgo := hk _ (List.getElem_mem hlt)
    have hg := enc16_getD ks j _ ho
    generalize ks[j] = o at ho hgo hg
    have h1 : hexv ((enc16 ks).getD i.toNat 0) = o / 16 := by rw [show i.toNat = 2 * j by omega, hg.1, hexv_hexC (by omega) (by omega)]
    have h2 : hexv ((enc16 ks).getD (i + 1).toNat 0) = o % 16 := by rw [show (i + 1).toNat = 2 * j + 1 by omega, hg.2, hexv_hexC (by omega) (by omega)]
    have hi0 : 0 ≤ i := by omega
    have hi1 : i + 1 < ((enc16 ks).length : Int) := by omega
    clear hg
    k_steps
    (rename News _ _ _ _ => nE); (try simp only [List.push_toArray] at nE)
    refine ksw_end (σ := H2) ⟨_, _, _, _, _⟩ (by assumption) nE (by kst_in) (by kst_facts) (by kst_all) (by ksw_same) ?_ ?_
    · dsimp only
      refine ⟨j + 1, by omega, by omega, ?_⟩
      rw [take_snoc ho, hxs, h1, h2, show o / 16 * 2 ^ Int.toNat 4 + o % 16 = o by show o / 16 * 16 + o % 16 = o; omega]
    · dsimp only; omega
  · have hi1 : i = ((enc16 ks).length : Int) := by omega
    k_steps
    (rename News _ _ _ _ => nE); (rename Fr _ _ _ _ => fE)
    have hx2 : xs = ks := by rw [hxs]; exact List.take_of_length_le (by omega)
    refine bytes_K fE nE (ns := ks) (News.isList nE (.head _)) (by rw [← hx2]; exact hf) hk (by rw [sizeLine_eq]; omega) rfl ?_
    intro h9 t9 k9 F9 _ _
    walk_at "c_out"
    exact hQ _ _ _ F9.keep ⟨t9, rfl⟩
theorem s_b64dec_str (w : World) (ks : List Int) (hk : Oct ks) (t : Tok) (st : Bool) (hb : ks.length ≤ 5000) : Spec w 203 3 25 [.str (sz (enc64 ks)) t, .none, .bool st] [] (fun v _ => ∃ t', v = .bytes (bz ks) t') := by
  intro p loose mean mg mb dp un fr gd s Q E hR hX hT hQ
  walk_at "c_enter"
  intro L h₁ tk F N
  replace F : Fr s.heap L h₁ (fun y => List.lookup y [(Str.ofString "validate", Value.bool st), (Str.ofString "altchars", Value.none), (Str.ofString "s", Value.str (sz (enc64 ks)) t)]) := F
  have hel := enc64_len hk
  (try dsimp only)
  k_steps
  refine use_specV (s_bfd_str _ _ (asc_sz (enc64_as hk)) (by rw [size_sz]; omega) _) (by walk_at "c_room") (by k_asm) (by k_asm) (by k_asm) (by k_asm) ?_
  intro t' h' tk' F' N'
  rw [asB_sz]
  k_steps
  refine use_specV (s_a2b _ _ hk _ _ hb) (by walk_at "c_room") (by k_asm) (by k_asm) (by k_asm) (by k_asm) ?_
  intro t' h' tk' F' N'
  walk_at "c_out"
  exact hQ _ _ _ (by walk_at "c_keep") ⟨_, rfl⟩
theorem s_b64dec_bytes (w : World) (ks : List Int) (hk : Oct ks) (t : Tok) (hb : ks.length ≤ 5000) : Spec w 203 3 25 [.bytes (bz (enc64 ks)) t] [] (fun v _ => ∃ t', v = .bytes (bz ks) t') := by
  intro p loose mean mg mb dp un fr gd s Q E hR hX hT hQ
  walk_at "c_enter"
  intro L h₁ tk F N
  replace F : Fr s.heap L h₁ (fun y => List.lookup y [(Str.ofString "validate", Value.bool false), (Str.ofString "altchars", Value.none), (Str.ofString "s", Value.bytes (bz (enc64 ks)) t)]) := F
  (try dsimp only)
  k_steps
  refine use_specE (s_bfd_bytes _ _ _) (by walk_at "c_room") (by k_asm) (by k_asm) (by k_asm) (by k_asm) ?_
  intro h' tk' F' N'
  k_steps
  refine use_specV (s_a2b _ _ hk _ _ hb) (by walk_at "c_room") (by k_asm) (by k_asm) (by k_asm) (by k_asm) ?_
  intro t' h' tk' F' N'
  walk_at "c_out"
  exact hQ _ _ _ (by walk_at "c_keep") ⟨_, rfl⟩
theorem s_urldec (w : World) (ks : List Int) (hk : Oct ks) (t : Tok) (hb : ks.length ≤ 5000) : Spec w 217 4 30 [.str (sz (encU ks)) t] [] (fun v _ => ∃ t', v = .bytes (bz ks) t') := by
  intro p loose mean mg mb dp un fr gd s Q E hR hX hT hQ
  walk_at "c_enter"
  intro L h₁ tk F N
  replace F : Fr s.heap L h₁ (fun y => List.lookup y [(Str.ofString "s", Value.str (sz (encU ks)) t)]) := F
  have hel := enc64_len hk
  have hul : (encU ks).length = (enc64 ks).length := by unfold encU; rw [List.length_map]
  (try dsimp only)
  k_steps
  refine use_specV (s_bfd_str _ _ (asc_sz (encU_as hk)) (by rw [size_sz]; omega) _) (by walk_at "c_room") (by k_asm) (by k_asm) (by k_asm) (by k_asm) ?_
  intro t' h' tk' F' N'
  rw [asB_sz]
  k_steps
  refine call_translate (by rfl) (by rw [size_bz]; omega) ?_
  intro t' tk'
  rw [trans_lit (f := trD) (by rfl) (by decide +kernel) (encU_as hk).oct, encU_back hk]
  k_steps
  refine use_specV (s_b64dec_bytes _ _ hk _ hb) (by walk_at "c_room") (by k_asm) (by k_asm) (by k_asm) (by k_asm) ?_
  intro t' h' tk' F' N'
  walk_at "c_out"
  exact hQ _ _ _ (by walk_at "c_keep") ⟨_, rfl⟩
end

theorem sitem {prog : Program} {w : World} {A : Around} {E Q : Value → Shared → Prop} {s : Shared} {fc : List Int} {i : Int} {t ui : Tok} {value slice : Expr} (h0 : 0 ≤ i) (h1 : i < fc.length) (hf : fc.length ≤ 64)
    (h : ∀ t' k, Q (.str (sz [fc.getD i.toNat 0]) t') { s with toks := k })
    (hs : subscripted slice false (.str (sz fc) t) (.int i ui) = operate [.str (sz fc) t, .int i ui] (getItem (.str (sz fc) t) (.int i ui)) := by with_unfolding_all rfl)
    (ht : ∀ r, letTemporaryGo value (.str (sz fc) t) r = pure () := by intro _; with_unfolding_all rfl) : wpAny (model prog w) A (subscriptTail value slice (.str (sz fc) t) (.int i ui)) Q E s :=
  item_str (fitsSsize_of (N := 9223372036854775808) (by omega) (by omega) (Int.le_refl _)) (by rw [length_sz]; omega) (by rw [length_sz]; exact h1) (fun _ => by rw [item_sz h0 h1]; exact h _ _) hs ht
structure S2 where
  hl : Int
  t1 : Tok
  bt : Int
  t2 : Tok
  vs : List Value
  ss : List Str
  n : Nat
structure P2 where
  vs : List Value
  ss : List Str
  n : Nat
  j : Nat
/-- where the ways of a statement meet: the frame as it was, one list on the ledger -/
inductive MidN (h₀ : Heap) (L : Addr) (m : Str → Option Value) (l : Addr) (R : List Value → Nat → Prop) (s : Shared) : Flow → Shared → Prop
  | mk (vs : List Value) (n : Nat) (h' : Heap) (tk : Nat) (r : R vs n) (F : Fr h₀ L h' m) (N : News h₀ L h' [(l, W.listOf vs.toArray n)]) : MidN h₀ L m l R s .next { s with heap := h', toks := tk }
theorem cut_FN {prog : Program} {w : World} {A : Around} {E : Value → Shared → Prop} {s : Shared} {h₀ : Heap} {L l : Addr} {m : Str → Option Value} {t : Sem Flow} {Q : Flow → Shared → Prop} (R : List Value → Nat → Prop) (_ : Fr h₀ L s.heap m)
    (h1 : wpAny (model prog w) A t (MidN h₀ L m l R s) E s)
    (h2 : ∀ vs n h' tk, R vs n → Fr h₀ L h' m → News h₀ L h' [(l, W.listOf vs.toArray n)] → Q .next { s with heap := h', toks := tk }) : wpAny (model prog w) A t Q E s :=
  wpAny_mono h1 (fun _ _ q => by cases q with | mk vs n h' tk r F N => exact h2 vs n h' tk r F N) fun _ _ y => y
theorem words_w_signs_1 : True := by
  k_with "subscriptTail" => ((with_reducible show wpAny _ _ (subscriptTail (Expr.Name (Str.ofString "face") _) _ (Value.str (sz _) _) (Value.int _ _)) _ _ _); (k_dflt (refine sitem (by walk_at "c_idx3") (by walk_at "c_idx3") (by first | with_reducible assumption | omega) ?_)); intro _ _)
  k_with "c_idx3" => (first | with_reducible assumption | omega | ((simp only [fd_0, fd_2, fd_4, fd_6, fm_0, fm_2, fm_4, fm_6]); omega) | ((try simp only [Int.reduceToNat, Int.reducePow, Int.reduceSub, Int.reduceAdd, Int.reduceMul, Int.toNat_zero, Int.pow_zero]); (try rw [Int.fdiv_eq_ediv_of_nonneg _ (by decide)]); omega))
  trivial
theorem pick2 {prog : Program} {w : World} {A : Around} {E Q : Value → Shared → Prop} {s : Shared} {value slice : Expr} {l : Addr} {a b : Str} {t1 t2 u : Tok} {n : Nat} {k : Int} (hl : s.heap.IsList l #[.str a t1, .str b t2]) (h0 : 0 ≤ k) (h1 : k < 2) (h : ∀ t', Q (.str ([a, b].getD k.toNat Str.empty) t') s)
    (hs : subscripted slice false (.ref l) (.int k u) = operate [.ref l, .int k u] (getItem (.ref l) (.int k u)) := by with_unfolding_all rfl) :
    wpAny (model prog w) A (subscriptTail value slice (.ref l) (.int k u)) Q E s := by
  obtain rfl | rfl : k = 0 ∨ k = 1 := by omega
  · exact item_litK (vs := [.str a t1, .str b t2]) hl (by decide) (by decide) rfl (h t1) hs
  · exact item_litK (vs := [.str a t1, .str b t2]) hl (by decide) (by decide) rfl (h t2) hs
theorem s_signs64 (w : World) (b : Array UInt8) (t u : Tok) (k : Int) (h0 : 0 ≤ k) (h2 : k < 2) (hb : b.size ≤ 5000) : Spec w 239 1 10 [.bytes b t, .int k u] [] (fun v _ => ∃ t', v = .str (sz (encW k (KBw.bInts b))) t') := by
  intro p loose mean mg mb dp un fr gd s Q E hR hX hT hQ
  walk_at "c_enter"
  intro L h₁ tk F N
  replace F : Fr s.heap L h₁ (fun y => List.lookup y [(Str.ofString "way", Value.int k u), (Str.ofString "octets", Value.bytes b t)]) := F
  (try dsimp only)
  walk_at "c_steps"
  refine pick2 (n := 0) (News.isList (by k_asm) (by k_mem)) h0 h2 ?_
  intro t'
  walk_at "c_steps"
  rename_i l' _ _ _ _ _ _ _ _ _ _ _ F' N'
  have hfl := faceOf_len k h0 h2
  have hfl2 : (faceOf k).length ≤ 64 := Nat.le_of_eq hfl
  rw [face_64 k h0 h2] at F'
  replace N' : News s.heap L _ [(l', W.listOf #[] 0)] := fun p hp => N' p (by rcases List.mem_cons.mp hp with rfl | hp; (· exact .head _); cases hp)
  have h8 := oct_bInts b
  have hbl : (KBw.bInts b).length ≤ 5000 := by rw [KBw.ints_length]; exact hb
  refine' KStb.kst_bytes (σ := S2) (fun c => [(l', W.listOf c.vs.toArray c.n)]) (fun c => [(Str.ofString "held", .int c.hl c.t1), (Str.ofString "bits", .int c.bt c.t2)]) (fun c => StrsAre c.vs c.ss) [] (fun pre c => SInv k pre c.ss c.hl c.bt) ⟨0, _, 0, _, [], [], 0⟩ rfl rfl rfl F' ?kn ?kf ?kk ?kp ?_ ?_
  (case kn => exact N')
  (case kk => kst_all)
  (case kf => exact StrsAre.nil)
  (case kp => exact SInv.start)
  · clear F' N'
    rintro ⟨hl, t1, bt, t2, vs, ss, n⟩ pre post o t' u' h tk' own e hlt ho0 ho1 hoff hf hP
    have kM := kstMark
    dsimp only at hf hP
    have h8p : Oct pre := fun x hx => h8 x (by rw [e]; exact List.mem_append_left _ hx)
    have hsz : vs.length ≤ 20000 := by rw [hf.length]; exact hP.len h8p (Nat.le_trans (Nat.le_of_lt hlt) hbl)
    have hsz0 := sz_ok hsz
    replace hoff : OwnOff own [l'] := hoff
    cases hP.way h8p hfl ho0 ho1
    all_goals intro F1 N1
    all_goals dsimp only at F1 N1 ⊢
    all_goals replace F1 := kst_nilx F1
    all_goals dsimp only [kstB] at F1
    all_goals replace N1 : News s.heap L _ ((l', W.listOf vs.toArray n) :: own) := N1
    all_goals clear hP e h8p
    all_goals k_steps
    all_goals (rename News _ _ _ _ => nE); (try replace nE := News.pushed2l nE); (try replace nE := News.pushed nE)
    all_goals refine kst_end (σ := S2) ⟨_, _, _, _, _, _, _⟩ (by assumption) nE (by first | kst_in | kst_inAny) (by first | (intro p hp; kst_mem) | kst_anyIn) (by rfl) (by first | exact StrsAre.append' hf (.cons _ _ .nil) | exact StrsAre.append' (StrsAre.append' hf (.cons _ _ .nil)) (.cons _ _ .nil)) (by kst_all) (by kst_same) ?_
    all_goals assumption
  · clear F' N'
    rintro ⟨hl, t1, bt, t2, vs, ss, n⟩ u' h tk' hlt hf hP F1 N1
    have kM := kstMark
    dsimp only at hf hP F1 N1 ⊢
    have hsz : vs.length ≤ 20000 := by rw [hf.length]; exact hP.len h8 hbl
    have hsz0 := sz_ok hsz
    replace F1 := kst_nilx F1
    dsimp only [kstB] at F1
    replace N1 : News s.heap L _ [(l', W.listOf vs.toArray n)] := N1
    walk_at "execs cons"
    refine cut_FN (l := l') (fun vs _ => StrsAre vs (((dig64 (KBw.bInts b)).map (fcW k)).map (fun x => sz [x]))) F1 ?_ ?_
    · cases hP.fin h8 hfl with
      | f0 e =>
        k_steps
        exact MidN.mk _ _ _ _ (by rw [← e]; exact hf) (by assumption) (by assumption)
      | f1 bb i0 i1 e =>
        k_steps
        (rename News _ _ _ _ => nE); replace nE := News.pushed nE
        exact MidN.mk _ _ _ _ (by rw [← e]; exact StrsAre.append' hf (.cons _ _ .nil)) (by assumption) nE
      | f2 bb i0 i1 e =>
        k_steps
        (rename News _ _ _ _ => nE); replace nE := News.pushed nE
        exact MidN.mk _ _ _ _ (by rw [← e]; exact StrsAre.append' hf (.cons _ _ .nil)) (by assumption) nE
    clear hf hP hsz hsz0 N1 F1
    intro vs n h tk' hf F1 N1
    walk_at "c_out"
    walk_at "c_steps"
    refine' ksw_while (σ := P2) (fun c => [(l', W.listOf c.vs.toArray c.n)]) (fun _ => []) (fun c => StrsAre c.vs c.ss) []
      (fun c => PInv k (KBw.bInts b) c.j c.ss) (fun c => pad64 (KBw.bInts b) - c.j) ⟨_, _, _, 0⟩ F1 ?kn ?kf ?kk ?kp ?_
    (case kn => exact N1)
    (case kk => exact fun _ h => nomatch h)
    (case kf => exact hf)
    (case kp => exact PInv.start)
    clear hf F1 N1
    rintro ⟨vs, ss, n, j⟩ u' h tk' hf hP
    dsimp only at hf hP
    have hvl := hf.length
    have hsl := hP.le h8 hbl
    have hsz : vs.length ≤ 20000 := by rw [hvl]; exact hsl
    have hsz0 := sz_ok hsz
    cases hP.way h8 hbl with
    | more j hm e hlt =>
      intro F1 N1
      dsimp only at F1 N1 ⊢
      replace F1 := kst_nil F1
      dsimp only [kstB] at F1
      clear hP
      k_steps
      (rename News _ _ _ _ => nE); replace nE := News.pushed nE
      exact ksw_end (σ := P2) ⟨_, _, _, j + 1⟩ (by assumption) nE (by kst_in) (StrsAre.append' hf (.cons _ _ .nil)) (fun _ h => nomatch h) (by ksw_same) e hlt
    | last hm hs e =>
      intro F1 N1
      dsimp only at F1 N1 ⊢
      replace F1 := kst_nil F1
      dsimp only [kstB] at F1
      clear hP
      k_steps
      (rename News _ _ _ _ => nE)
      refine join_listC (ys := ss) (News.isList nE (.head _)) hf (by decide) hs ?_
      intro t9 k9
      walk_at "c_out"
      refine hQ _ _ _ (by walk_at "c_keep") ⟨t9, ?_⟩
      rw [e, signs_64 h0 h2 h8]

theorem fd4a (x : Int) : x.fdiv (2 ^ (0 + 8 - 4 : Int).toNat) = x / 16 := by rw [Int.fdiv_eq_ediv_of_nonneg _ (by decide)]; rfl
theorem fm4a (x : Int) : x.fmod (2 ^ (0 + 8 - 4 : Int).toNat) = x % 16 := by rw [Int.fmod_eq_emod_of_nonneg _ (by decide)]; rfl
theorem fd4b (x : Int) : x.fdiv (2 ^ (0 + 8 - 4 - 4 : Int).toNat) = x := by rw [Int.fdiv_eq_ediv_of_nonneg _ (by decide)]; show x / 1 = x; omega
theorem fm4b (x : Int) : x.fmod (2 ^ (0 + 8 - 4 - 4 : Int).toNat) = 0 := by rw [Int.fmod_eq_emod_of_nonneg _ (by decide)]; show x % 1 = 0; omega
theorem enc16_snoc (ks : List Int) (o : Int) : enc16 (ks ++ [o]) = enc16 ks ++ [hexC (o / 16), hexC (o % 16)] := by unfold enc16; rw [List.flatMap_append]; rfl
theorem words_w_signs2_1 : True := by
  k_with "c_idx3" => (first | omega | ((simp only [fd4a, fd4b, fm4a, fm4b, List.length_cons, List.length_nil]); omega))
  trivial
theorem s_signs16 (w : World) (b : Array UInt8) (t u : Tok) (hb : b.size ≤ 5000) : Spec w 239 1 10 [.bytes b t, .int 2 u] [] (fun v _ => ∃ t', v = .str (sz (encW 2 (KBw.bInts b))) t') := by
  intro p loose mean mg mb dp un fr gd s Q E hR hX hT hQ
  walk_at "c_enter"
  intro L h₁ tk F N
  replace F : Fr s.heap L h₁ (fun y => List.lookup y [(Str.ofString "way", Value.int 2 u), (Str.ofString "octets", Value.bytes b t)]) := F
  (try dsimp only)
  walk_at "c_steps"
  rename_i l' _ _ _ _ _ _ _ _ _ _ _ F' N'
  have hfl : (faceOf 2).length = 16 := by decide
  rw [face_16] at F'
  have h8 := oct_bInts b
  refine' KStb.kst_bytes (σ := S2) (fun c => [(l', W.listOf c.vs.toArray c.n)]) (fun c => [(Str.ofString "held", .int c.hl c.t1), (Str.ofString "bits", .int c.bt c.t2)]) (fun c => StrsAre c.vs c.ss) []
    (fun pre c => c.ss = (enc16 pre).map (fun x => sz [x]) ∧ c.hl = 0 ∧ c.bt = 0) ⟨0, _, 0, _, [], [], 0⟩ rfl rfl rfl F' ?kn ?kf ?kk ?kp ?_ ?_
  (case kn => exact N')
  (case kk => kst_all)
  (case kf => exact StrsAre.nil)
  (case kp => exact ⟨rfl, rfl, rfl⟩)
  · rintro ⟨hl, t1, bt, t2, vs, ss, n⟩ pre post o t' u' h tk' own e hlt ho0 ho1 hoff hf ⟨hss, rfl, rfl⟩ F1 N1
    clear F' N'
    have kM := kstMark
    dsimp only at *
    have hvl := hf.length
    have hsz : vs.length ≤ 20000 := by have := KBw.ints_length b; rw [hvl, hss, List.length_map, enc16_len]; omega
    replace F1 : Fr s.heap L _ _ := F1
    simp only [kstB, List.contains_nil, Bool.false_eq_true, if_false] at F1
    replace N1 : News s.heap L _ ((l', W.listOf vs.toArray n) :: own) := N1
    replace hoff : OwnOff own [l'] := hoff
    k_steps
    (rename News _ _ _ _ => nE); (try simp only [List.push_toArray] at nE)
    refine kst_end (σ := S2) ⟨_, _, _, _, _, _, _⟩ (by assumption) nE (by first | kst_in | kst_inAny) (by first | (intro p hp; kst_mem) | kst_anyIn) (by rfl) (StrsAre.append' (StrsAre.append' hf (.cons _ _ .nil)) (.cons _ _ .nil)) (by kst_all) (by kst_same) ?_
    dsimp only
    rw [fd4a, fm4a, fd4b, fm4b, enc16_snoc, hss]
    refine ⟨?_, rfl, rfl⟩
    have e1 := fcW_2 (d := o / 16) (by omega) (by omega)
    have e2 := fcW_2 (d := o % 16) (by omega) (by omega)
    unfold fcW at e1 e2
    rw [show (0 * 256 + o) / 16 = o / 16 by omega, show (0 * 256 + o) % 16 = o % 16 by omega, e1, e2]
    simp only [List.map_append, List.map_cons, List.map_nil, List.append_assoc, List.cons_append, List.nil_append]
  · rintro ⟨hl, t1, bt, t2, vs, ss, n⟩ u' h tk' hlt hf ⟨hss, rfl, rfl⟩ F1 N1
    clear F' N'
    have kM := kstMark
    dsimp only at *
    have hvl := hf.length
    replace F1 : Fr s.heap L _ _ := F1
    simp only [kstB, List.contains_nil, Bool.false_eq_true, if_false] at F1
    replace N1 : News s.heap L _ [(l', W.listOf vs.toArray n)] := N1
    k_steps
    (rename News _ _ _ _ => nE)
    refine join_listC (ys := ss) (News.isList nE (.head _)) (by exact hf) (by decide) (by rw [hss, sumlen1, List.length_map, enc16_len]; have := KBw.ints_length b; omega) ?_
    intro t9 k9
    walk_at "c_out"
    refine hQ _ _ _ (by walk_at "c_keep") ⟨t9, ?_⟩
    rw [hss, glued_sz]; rfl
theorem s_signs (w : World) (b : Array UInt8) (t u : Tok) (k : Int) (h0 : 0 ≤ k) (h2 : k < 3) (hb : b.size ≤ 5000) : Spec w 239 1 10 [.bytes b t, .int k u] [] (fun v _ => ∃ t', v = .str (sz (encW k (KBw.bInts b))) t') := by
  by_cases h : k < 2
  · exact s_signs64 w b t u k h0 h hb
  · obtain rfl : k = 2 := by omega
    exact s_signs16 w b t u hb

theorem words_w_write_1 : True := by
  k_with "call ref" => ((with_reducible show wpAny _ _ (call (Value.ref 195) [Value.bytes _ _] _) _ _ _); (refine use_specV (s_b64encode _ _ _ (by assumption)) (by walk_at "c_room") (by k_asm) (by k_asm) (by k_asm) (by k_asm) ?_); intro _ _ _ _ _)
  k_with "call ref" => ((with_reducible show wpAny _ _ (call (Value.ref 210) [Value.bytes _ _] _) _ _ _); (refine use_specV (s_urlenc _ _ _ (by assumption)) (by walk_at "c_room") (by k_asm) (by k_asm) (by k_asm) (by k_asm) ?_); intro _ _ _ _ _)
  k_with "call ref" => ((with_reducible show wpAny _ _ (call (Value.ref 224) [Value.bytes _ _] _) _ _ _); (refine use_specV (s_b16enc _ _ _ (by assumption)) (by walk_at "c_room") (by k_asm) (by k_asm) (by k_asm) (by k_asm) ?_); intro _ _ _ _ _)
  trivial
theorem s_write (w : World) (b : Array UInt8) (t u : Tok) (k : Int) (h0 : 0 ≤ k) (h2 : k < 3) (hb : b.size ≤ 5000) : Spec w 246 5 30 [.bytes b t, .int k u] [] (fun v _ => ∃ t', v = .bytes (bz (encW k (KBw.bInts b))) t') := by
  intro p loose mean mg mb dp un fr gd s Q E hR hX hT hQ
  walk_at "c_enter"
  intro L h₁ tk F N
  replace F : Fr s.heap L h₁ (fun y => List.lookup y [(Str.ofString "way", Value.int k u), (Str.ofString "octets", Value.bytes b t)]) := F
  (try dsimp only)
  k_steps
  · obtain rfl : k = 0 := by assumption
    walk_at "c_out"
    exact hQ _ _ _ (by walk_at "c_keep") ⟨_, rfl⟩
  · obtain rfl : k = 1 := by assumption
    walk_at "c_out"
    exact hQ _ _ _ (by walk_at "c_keep") ⟨_, rfl⟩
  · obtain rfl : k = 2 := by omega
    walk_at "c_out"
    exact hQ _ _ _ (by walk_at "c_keep") ⟨_, rfl⟩

section
theorem s_b16dec (w : World) (ks : List Int) (hk : Oct ks) (t : Tok) (hb : ks.length ≤ 5000) : Spec w 232 3 25 [.str (sz (enc16 ks)) t] [] (fun v _ => ∃ t', v = .bytes (bz ks) t') := by
  intro p loose mean mg mb dp un fr gd s Q E hR hX hT hQ
  walk_at "c_enter"
  intro L h₁ tk F N
  replace F : Fr s.heap L h₁ (fun y => List.lookup y [(Str.ofString "casefold", Value.bool false), (Str.ofString "s", Value.str (sz (enc16 ks)) t)]) := F
  have hel := enc16_len ks
  (try dsimp only)
  k_steps
  refine use_specV (s_bfd_str _ _ (asc_sz (enc16_as hk)) (by rw [size_sz]; omega) _) (by walk_at "c_room") (by k_asm) (by k_asm) (by k_asm) (by k_asm) ?_
  intro t' h' tk' F' N'
  rw [asB_sz]
  k_steps
  refine search_no (pat_99 (by walk_at "c_in")) (.bytes _ _) (by simp [size_bz]; omega) (twin1_none (hex_sign hk)) (by decide) ?_
  k_steps
  refine use_specV (s_a2bhex _ _ hk _ hb) (by walk_at "c_room") (by k_asm) (by k_asm) (by k_asm) (by k_asm) ?_
  intro t' h' tk' F' N'
  walk_at "c_out"
  exact hQ _ _ _ (by walk_at "c_keep") ⟨_, rfl⟩
end

section
theorem s_unmatched (w : World) (a b : Addr) (x : Str) (t : Tok) (pat : Addr) (n : Nat) (li : Int) (q0 : Nat) (r : List Value) (hz : x.length ≤ 100000) (hq : q0 ≤ x.cps.size) :
    SpecX w 50 1 10 [.ref a] [] [(a, matO (.str x t) pat n li b), (b, spO (rawInt (0 : Nat) :: rawInt q0 :: r))] (fun h v h' => h.StaysIn h' ∧ ∃ t', v = .str ⟨x.cps.extract q0 x.cps.size⟩ t') := by
  intro p loose mean mg mb dp un fr gd s Q E g hR hX hT hst has hQ
  have hXS := Frag.In.keeps hX hst
  walk_at "c_enterX"
  intro b₀ L h₁ tk B X' T' F N
  replace F : Fr b₀ L h₁ (fun y => List.lookup y [(Str.ofString "match", Value.ref a)]) := F
  (try dsimp only)
  k_steps
  (rename News _ _ _ _ => nE); (rename Fr _ _ _ _ => fE)
  walk_at "c_out"
  refine hQ _ _ _ ⟨B.stays fE.keep (fun q hq => (nE _ (.tail _ hq)).1), ⟨_, congrArg (Value.str · _) (slice_0 x q0 hq)⟩⟩
end

theorem words_w_join_1 : True := by
  k_with "call builtin:re.Pattern.sub" => (refine sub_K (by k_asm) (by k_asm) (pat_87 (by walk_at "c_in")) (by rw [csize_sz]; omega) (jesc_v (by with_reducible assumption)) (by decide) (by k_mem) (by with_reducible assumption) ?_; intro _ _ _ _ _)
  trivial
theorem code_94 {w : World} {h : Heap} (X : (hd.heap_1 w.params).In h) : CodeHd h 93 89 := codeHd_of_K X (by kernel_rfl)
/-- the statement of the inner loop that writes a pair -/
noncomputable def jIf : List Stmt → Stmt
  | [_, .For _ _ (_ :: .For _ _ (st :: _) _ _ :: _) _ _, _] => st
  | st :: _ => st
  | [] => .Pass ⟨0, 0, 0, 0⟩
noncomputable def JTurn (w : World) (b₀ : Heap) (k : Int) (v : List Int) (A : Around) (env : Env) (st : Stmt) : Prop :=
  ∀ (m : Str → Option Value) (own : List (Addr × Obj)) (ps : Array Value) (s : Shared) (t1 t2 : Tok) (Q : Flow → Shared → Prop) (E : Value → Shared → Prop),
    TabOk posJ ps → OwnOff own [89] → Fr b₀ env.locals s.heap (fun y => if y = Str.ofString "v" then some (.str (sz v) t2) else if y = Str.ofString "k" then some (.str (sz [k]) t1) else m y) → News b₀ env.locals s.heap ((89, tabObj ps) :: own) →
    (∀ ps' h' tk' vv u1 u2, TabOk posJ ps' → Fr b₀ env.locals h' (fun y => if y = Str.ofString "k" then some (.str (sz (k :: 61 :: wrV v)) u1) else if y = Str.ofString "v" then some (.str vv u2) else m y) → News b₀ env.locals h' ((89, tabObj ps') :: own) → Q .next { s with heap := h', toks := tk' }) →
    wpAny (model PR w) A (exec st env) Q E s
theorem open_turn {w : World} {b₀ : Heap} {k : Int} {v : List Int} {A : Around} {env : Env} {code : List Stmt} {Q : Flow → Shared → Prop} {E : Value → Shared → Prop} {s : Shared} (h1 : JTurn w b₀ k v A env (jIf code))
    (h2 : JTurn w b₀ k v A env (jIf code) → wpAny (model PR w) A (execs code env) Q E s) : wpAny (model PR w) A (execs code env) Q E s := h2 h1
theorem turn_use {w : World} {b₀ : Heap} {k : Int} {v : List Int} {A : Around} {env : Env} {st : Stmt} {m : Str → Option Value} {news : List (Addr × Obj)} {g : Obj → List (Addr × Obj)} {ps : Array Value} {s : Shared} {t1 t2 : Tok} {Q : Flow → Shared → Prop} {E : Value → Shared → Prop}
    (T : JTurn w b₀ k v A env st) (hps : TabOk posJ ps) (F : Fr b₀ env.locals s.heap (fun y => if y = Str.ofString "v" then some (.str (sz v) t2) else if y = Str.ofString "k" then some (.str (sz [k]) t1) else m y)) (N : News b₀ env.locals s.heap news) (U : UpdF 89 (tabObj ps) news g)
    (h : ∀ ps' h' tk' vv u1 u2, TabOk posJ ps' → Fr b₀ env.locals h' (fun y => if y = Str.ofString "k" then some (.str (sz (k :: 61 :: wrV v)) u1) else if y = Str.ofString "v" then some (.str vv u2) else m y) → News b₀ env.locals h' (g (tabObj ps')) → Q .next { s with heap := h', toks := tk' }) :
    wpAny (model PR w) A (exec st env) Q E s := by
  obtain ⟨pre, post, rfl, hg, a, b⟩ := U.split
  refine T m (pre ++ post) ps s t1 t2 Q E hps (fun p hp c hc => ?_) F (fun q hq => N q ?_) fun ps' h' tk' vv u1 u2 hps' F' N' => h ps' h' tk' vv u1 u2 hps' F' fun q hq => N' q ?_
  · rw [List.mem_singleton.mp hc]
    rcases List.mem_append.mp hp with hp | hp
    · exact a p hp
    · exact b p hp
  · rcases List.mem_cons.mp hq with rfl | hq
    · exact List.mem_append_right _ (.head _)
    · rcases List.mem_append.mp hq with hq | hq
      · exact List.mem_append_left _ hq
      · exact List.mem_append_right _ (.tail _ hq)
  · rw [hg] at hq
    rcases List.mem_append.mp hq with hq | hq
    · exact .tail _ (List.mem_append_left _ hq)
    · rcases List.mem_cons.mp hq with rfl | hq
      · exact .head _
      · exact .tail _ (List.mem_append_right _ hq)
theorem kv_1 {m : Str → Option Value} {A B C : Option Value} : (fun y => if y = Str.ofString "k" then A else if y = Str.ofString "v" then B else if y = Str.ofString "k" then C else m y) = fun y => if y = Str.ofString "k" then A else if y = Str.ofString "v" then B else m y := by
  funext y
  by_cases h1 : y = Str.ofString "k"
  · simp [h1]
  · simp [h1]
theorem kv_2 {m : Str → Option Value} {A B C D G : Option Value} : (fun y => if y = Str.ofString "k" then A else if y = Str.ofString "v" then B else if y = Str.ofString "v" then D else if y = Str.ofString "v" then G else if y = Str.ofString "k" then C else m y) = fun y => if y = Str.ofString "k" then A else if y = Str.ofString "v" then B else m y := by
  funext y
  by_cases h1 : y = Str.ofString "k"
  · simp [h1]
  · by_cases h2 : y = Str.ofString "v"
    · simp [h1, h2]
    · simp [h1, h2]
theorem words_w_join_2 : True := by
  k_with "exec If" => ((with_reducible show wpAny _ _ (exec (Stmt.If (Expr.Compare (Expr.Name (Str.ofString "v") _) [CmpOp.IsNot] _ _) _ _ _) _) _ _ _); k_dflt (refine turn_use (by with_reducible assumption) (by with_reducible assumption) (by k_asm) (by k_asm) (by k_updF) ?_); intro _ _ _ _ _ _ _ _ N'; (try dsimp only at N'); (try k_sweep))
  trivial
theorem s_join (w : World) {k sh : Int} {v : List Int} {R : Value} {news : List (Addr × Obj)} (hL : Lists (sz [k]) (sz v) sh R news) (h89 : ∀ q ∈ news, @LT.lt Nat _ 89 q.1) (hk : Ks k) (hv : Vl v) (hz : v.length ≤ 50000) (ps : Array Value) (hps : TabOk posJ ps) :
    SpecX w 94 1 20 [R] [] (news ++ [(89, tabObj ps)]) (fun h v' h' => (∃ ps', TabOk posJ ps' ∧ Heap.ExtBut 89 h h' ∧ h'.get? 89 = some (tabObj ps')) ∧ ∃ t', v' = .str (sz (dueL sh k v)) t') := by
  intro p loose mean mg mb dp un fr gd s Q E g hR hX hT hst has hQ
  have hXS := Frag.In.keeps hX hst
  walk_at "c_enterX"
  intro b₀ L h₁ tk B X' T' F N
  have hC := code_94 X'
  have e0 : (sz [119]).length = 1 := len_sz _
  have e1 : (sz [k]).length = 1 := len_sz _
  have e2 : (sz v).length ≤ 50000 := by rw [len_sz]; exact hz
  (try dsimp only)
  refine open_turn (b₀ := b₀) (k := k) (v := v) ?_ fun hTn => ?_
  · clear F N hps hQ
    dsimp only [jIf]
    intro m own ps s t1 t2 Q E hps hoff F N hQ
    by_cases hb : bareV v = true
    · k_steps
      (rename News _ _ _ _ => nE); (rename Fr _ _ _ _ => fE)
      rw [join_v1 hb, kv_1] at fE
      exact hQ _ _ _ _ _ _ (by with_reducible assumption) fE (fun q hq => nE q (.tail _ hq))
    · k_steps
      (rename News _ _ _ _ => nE); (rename Fr _ _ _ _ => fE)
      rw [join_v2 hb, kv_2] at fE
      exact hQ _ _ _ _ _ _ (by with_reducible assumption) fE (fun q hq => nE q (.tail _ hq))
  dsimp only [jIf] at hTn
  have e3 : (wrV v).length ≤ 50002 := Nat.le_trans (wrV_len v) (by omega)
  clear has
  cases hL with
  | zero R P T n1 n2 t1 t2 =>
    replace F : Fr b₀ L h₁ (fun y => List.lookup y [(Str.ofString "lists", Value.ref R)]) := F
    have hR9 : @LT.lt Nat _ 89 R := h89 (R, _) (by k_mem)
    have hP9 : @LT.lt Nat _ 89 P := h89 (P, _) (by k_mem)
    have hT9 : @LT.lt Nat _ 89 T := h89 (T, _) (by k_mem)
    clear h89
    dsimp only [List.cons_append, List.nil_append] at N B
    k_steps
    (rename News _ _ _ _ => nE); (rename Fr _ _ _ _ => fE)
    exact hQ _ _ _ ⟨⟨_, by with_reducible assumption, B.extBut fE.keep (by walk_at "c_as"), nE.get (by k_mem)⟩, ⟨_, rfl⟩⟩
  | one R P U T n1 n2 t1 t2 tu =>
    replace F : Fr b₀ L h₁ (fun y => List.lookup y [(Str.ofString "lists", Value.ref R)]) := F
    have hR9 : @LT.lt Nat _ 89 R := h89 (R, _) (by k_mem)
    have hP9 : @LT.lt Nat _ 89 P := h89 (P, _) (by k_mem)
    have hU9 : @LT.lt Nat _ 89 U := h89 (U, _) (by k_mem)
    have hT9 : @LT.lt Nat _ 89 T := h89 (T, _) (by k_mem)
    clear h89
    dsimp only [List.cons_append, List.nil_append] at N B
    k_steps
    (rename News _ _ _ _ => nE); (rename Fr _ _ _ _ => fE)
    refine hQ _ _ _ ⟨⟨_, by with_reducible assumption, B.extBut fE.keep (by walk_at "c_as"), nE.get (by k_mem)⟩, ⟨_, congrArg (Value.str · _) ?_⟩⟩
    rw [sz_semi, sz_app, sz_app]; rfl
  | two R P O U T n1 n2 n3 t1 t2 tu =>
    replace F : Fr b₀ L h₁ (fun y => List.lookup y [(Str.ofString "lists", Value.ref R)]) := F
    have hR9 : @LT.lt Nat _ 89 R := h89 (R, _) (by k_mem)
    have hP9 : @LT.lt Nat _ 89 P := h89 (P, _) (by k_mem)
    have hO9 : @LT.lt Nat _ 89 O := h89 (O, _) (by k_mem)
    have hU9 : @LT.lt Nat _ 89 U := h89 (U, _) (by k_mem)
    have hT9 : @LT.lt Nat _ 89 T := h89 (T, _) (by k_mem)
    clear h89
    dsimp only [List.cons_append, List.nil_append] at N B
    k_steps
    (rename News _ _ _ _ => nE); (rename Fr _ _ _ _ => fE)
    refine hQ _ _ _ ⟨⟨_, by with_reducible assumption, B.extBut fE.keep (by walk_at "c_as"), nE.get (by k_mem)⟩, ⟨_, congrArg (Value.str · _) ?_⟩⟩
    rw [sz_comma, join_w]; rfl

/-- a key, a space ahead of it or none, then a stop -/
inductive Tok1 : List Int → Nat → Int → List Int → Prop
  | zero {k d : Int} {r : List Int} (hk : Ks k) (hd : tokStop d.toNat = true) (ha : As (k :: d :: r)) (hz : (k :: d :: r).length ≤ 100000) : Tok1 (k :: d :: r) 0 k (d :: r)
  | one {k d : Int} {r : List Int} (hk : Ks k) (hd : tokStop d.toNat = true) (ha : As (32 :: k :: d :: r)) (hz : (32 :: k :: d :: r).length ≤ 100000) : Tok1 (32 :: k :: d :: r) 1 k (d :: r)
theorem Tok1.len {l : List Int} {j : Nat} {k : Int} {r : List Int} (h : Tok1 l j k r) : l.length ≤ 100000 := by cases h <;> assumption
theorem Tok1.drop {l : List Int} {j : Nat} {k : Int} {r : List Int} (h : Tok1 l j k r) : l.drop (j + 1) = r := by cases h <;> rfl
theorem Tok1.le {l : List Int} {j : Nat} {k : Int} {r : List Int} (h : Tok1 l j k r) : j + 1 ≤ l.length := by cases h <;> simp
theorem Tok1.key {l : List Int} {j : Nat} {k : Int} {r : List Int} (h : Tok1 l j k r) : (l.drop j).take (j + 1 - j) = [k] := by cases h <;> rfl
section
variable {w : World} {A : Around} {E : Value → Shared → Prop} {s : Shared} {h₀ : Heap} {L a b : Addr} {m : Str → Option Value} {news : List (Addr × Obj)} {t u : Tok} {Q : Value → Shared → Prop} {l r v : List Int} {j n q : Nat} {k li : Int} {pat : Addr}
  {p : Program} {loose : List Str} {mean : ExcName → Option Value} {mg mb : Str → Option Value}
theorem r_found {code : Array Nat} {pa : Addr} {ls hd : Nat} {p0 q0 : Nat} {steps : Nat} (F : Fr h₀ L s.heap m) (N : News h₀ L s.heap news) (P : Pat s.heap pa code 1 0) (hz : l.length ≤ 100000)
    (gs : Goes (Sre.forSearch code (sz l).cps 1 0 (sz l).cps.size false) (won code (sz l).cps n ls hd #[some p0, some q0] 1 1) steps) (hs : steps ≤ 1000) (hpq : p0 ≤ q0)
    (h : ∀ a b h', Fr h₀ L h' m → News h₀ L h' ((a, matO (.str (sz l) t) pa l.length 1 b) :: (b, spO [rawInt (0 : Nat), rawInt hd, rawInt p0, rawInt q0]) :: news) → (∀ p ∈ news, p.1 < b) → b < a → Q (.ref a) { s with heap := h' }) :
    wpAny (model PR w) A (call (.builtin "re.Pattern.search") [.ref pa, .str (sz l) t]) Q E s := by
  refine search_K F N P (.str _ _) (by rw [csize_sz]; omega) gs (by omega) rfl ?_ (by show 2 ≤ 1000; decide) fun a b h' F' N' l1 l2 => ?_
  · show (((1 : Int) ≤ 1 : Bool) && decide (q0 < p0) || false) = false
    simp; omega
  · rw [csize_sz] at N'
    exact h a b h' F' N' l1 l2
theorem r_none {code : Array Nat} {pa : Addr} (P : Pat s.heap pa code 1 0) (hz : l.length ≤ 100000) (f : Fails (Sre.forSearch code (sz l).cps 1 0 (sz l).cps.size false) 300000) (h : Q .none s) :
    wpAny (model PR w) A (call (.builtin "re.Pattern.search") [.ref pa, .str (sz l) t]) Q E s :=
  search_no P (.str _ _) (by rw [csize_sz]; omega) f (by decide) h
theorem r_tok (F : Fr h₀ L s.heap m) (N : News h₀ L s.heap news) (X : (hd.heap_1 w.params).In h₀) (hT : Tok1 l j k r)
    (h : ∀ a b h', Fr h₀ L h' m → News h₀ L h' ((a, matO (.str (sz l) t) 55 l.length 1 b) :: (b, spO [rawInt (0 : Nat), rawInt (j + 1 : Nat), rawInt j, rawInt (j + 1 : Nat)]) :: news) → (∀ p ∈ news, p.1 < b) → b < a → Q (.ref a) { s with heap := h' }) :
    wpAny (model PR w) A (call (.builtin "re.Pattern.search") [.ref 55, .str (sz l) t]) Q E s := by
  have P := pat_55 (Frag.In.at X F)
  cases hT with
  | zero hk hd ha hz => exact r_found F N P hz (tok_one hk hd ha hz) (by decide) (by decide) h
  | one hk hd ha hz => exact r_found F N P hz (tok_space_one hk hd ha hz) (by decide) (by decide) h
theorem r_unm (F : Fr h₀ L s.heap m) (N : News h₀ L s.heap news) (X : (hd.heap_1 w.params).In h₀) (T : Top p loose mean mg mb h₀) (R : Room A 1 10) {vs : List Value} (hm : (a, matO (.str (sz l) t) pat n li b) ∈ news) (hs : (b, spO (rawInt (0 : Nat) :: rawInt q :: vs)) ∈ news)
    (hz : l.length ≤ 100000) (hq : q ≤ l.length) (hr : l.drop q = r)
    (h : ∀ h' t' tk', Fr h₀ L h' m → News h₀ L h' news → Q (.str (sz r) t') { s with heap := h', toks := tk' }) : wpAny (model PR w) A (call (.ref 50) [.ref a] []) Q E s := by
  refine use_specX (s_unmatched w a b (sz l) t pat n li q vs (by rw [len_sz]; exact hz) (by rw [csize_sz]; exact hq)) R F N X T (fun x hx => ?_) fun v h' tk' po => ?_
  · rcases List.mem_cons.mp hx with rfl | hx
    · exact hm
    · rcases List.mem_cons.mp hx with rfl | hx
      · exact hs
      · cases hx
  · obtain ⟨st, t', rfl⟩ := po
    have e : (⟨(sz l).cps.extract q (sz l).cps.size⟩ : Str) = sz r := by
      rw [ext_sz, hr, csize_sz, List.take_of_length_le (by rw [← hr, List.length_drop]; omega)]
    rw [e]
    exact h h' t' tk' (Fr.onS F st) (News.onS N st)
theorem r_group (N : News h₀ L s.heap news) {p1 q1 p2 q2 : Nat} (hm : (a, matO (.str (sz l) t) pat n li b) ∈ news) (hs : (b, spO [rawInt p1, rawInt q1, rawInt p2, rawInt q2]) ∈ news) (hz : l.length ≤ 100000) (hr : (l.drop p2).take (q2 - p2) = r)
    (h : ∀ t' k, Q (.str (sz r) t') { s with toks := k }) : wpAny (model PR w) A (call (.builtin "re.Match.group") [.ref a, .int 1 u]) Q E s :=
  group_K N hm hs (by rw [csize_sz]; omega) fun t' k => by rw [ext_sz, hr]; exact h t' k
theorem drop_quo (v : List Int) : (61 :: 34 :: v ++ [34]).drop (3 + v.length) = [] := List.drop_eq_nil_of_le (by simp; omega)
theorem drop_val (v : List Int) : (61 :: v).drop (1 + v.length) = [] := List.drop_eq_nil_of_le (by simp; omega)
theorem take_quo (v : List Int) : ((61 :: 34 :: v ++ [34]).drop 2).take (2 + v.length - 2) = v := by
  show (v ++ [34]).take (2 + v.length - 2) = v
  rw [show 2 + v.length - 2 = v.length by omega, List.take_left]
theorem take_val (v : List Int) : ((61 :: v).drop 1).take (1 + v.length - 1) = v := by
  show v.take (1 + v.length - 1) = v
  rw [show 1 + v.length - 1 = v.length by omega, List.take_length]
end
section
variable {w : World} {A : Around} {E : Value → Shared → Prop} {s : Shared} {h₀ : Heap} {L : Addr} {m : Str → Option Value} {news : List (Addr × Obj)} {t u : Tok} {Q : Value → Shared → Prop} {r v : List Int} {k : Int} {f : Addr} {of : Obj}
theorem r_subn (F : Fr h₀ L s.heap m) (N : News h₀ L s.heap news) (X : (hd.heap_1 w.params).In h₀) (hk : Ks k) (hz : (59 :: 32 :: k :: r).length ≤ 100000)
    (h : ∀ T h' t' t2 k', Fr h₀ L h' m → News h₀ L h' ((T, ({ cls := .type "tuple", data := .seq [.str (sz (k :: r)) t', .int 1 t2].toArray } : Obj)) :: news) → (∀ p ∈ news, p.1 < T) → Q (.ref T) { s with heap := h', toks := k' }) :
    wpAny (model PR w) A (call (.builtin "re.Pattern.subn") [.ref 43, .str (Str.ofString "") u, .str (sz (59 :: 32 :: k :: r)) t]) Q E s := by
  refine subn_K (k := 2) F N (pat_43 (Frag.In.at X F)) (by rw [csize_sz]; omega) (junk_two hk hz) (by decide) rfl rfl rfl (by decide) (by rw [csize_sz]; simp) (junk_next (l := 59 :: 32 :: k :: r) hz (by simp)) (by decide) fun T h' t' t2 k' F' N' l1 => ?_
  have e : (⟨(sz (59 :: 32 :: k :: r)).cps.extract 2 (sz (59 :: 32 :: k :: r)).cps.size⟩ : Str) = sz (k :: r) := by
    rw [ext_sz, csize_sz]
    congr 1
    simp
  rw [e] at N'
  exact h T h' t' t2 k' F' N' l1
theorem r_sub (F : Fr h₀ L s.heap m) (N : News h₀ L s.heap news) (X : (hd.heap_1 w.params).In h₀) (hv : Vl v) (hz : v.length ≤ 50000) (hf : (f, of) ∈ news) (hfc : of.cls = .type "function")
    (h : ∀ h' t' k, Fr h₀ L h' m → News h₀ L h' news → Q (.str (sz v) t') { s with heap := h', toks := k }) : wpAny (model PR w) A (call (.builtin "re.Pattern.sub") [.ref 70, .ref f, .str (sz v) t]) Q E s :=
  sub_K F N (pat_70 (Frag.In.at X F)) (by rw [csize_sz]; omega) (esc_v hv (by omega)) (by decide) hf hfc h
theorem k_truthyK {l : List Int} {j : Nat} {Q : Bool → Shared → Prop} (hT : Tok1 l j k r) (h : ∀ k, Q true { s with toks := k }) : wpAny (model PR w) A (truthy (.str (sz l) t)) Q E s := by
  cases hT with
  | zero hk hd ha hz => exact k_truthyT hz h
  | one hk hd ha hz => exact k_truthyT hz h
theorem code_77 {w : World} {h : Heap} (X : (hd.heap_1 w.params).In h) : CodeHd h 76 72 := codeHd_of_K X (by kernel_rfl)
theorem wpAny_mono_bool {M : Model} {b c : Bool} (e : b = c) {P : Bool → Prop} (h : P c) : P b := e ▸ h
end
theorem words_w_split0_1 : True := by
  k_with "c_found" => (intro _ _ _ _ _ l1 l2; (try k_lt l1); (try k_lt2 l2))
  k_with "call builtin:re.Pattern.search" => first
  | ((with_reducible show wpAny _ _ (call _ [Value.ref 55, _]) _ _ _); first | (refine r_tok (by k_asm) (by k_asm) (by k_asm) (by with_reducible assumption) ?_; walk_at "c_found") | (refine r_none (pat_55 (by walk_at "c_in")) (by with_reducible assumption) (by with_reducible assumption) ?_))
  | ((with_reducible show wpAny _ _ (call _ [Value.ref 60, _]) _ _ _); first | (refine r_found (by k_asm) (by k_asm) (pat_60 (by walk_at "c_in")) (by with_reducible assumption) (by with_reducible assumption) (by decide) (by omega) ?_; walk_at "c_found") | (refine r_none (pat_60 (by walk_at "c_in")) (by with_reducible assumption) (by with_reducible assumption) ?_))
  | ((with_reducible show wpAny _ _ (call _ [Value.ref 65, _]) _ _ _); first | (refine r_found (by k_asm) (by k_asm) (pat_65 (by walk_at "c_in")) (by with_reducible assumption) (by with_reducible assumption) (by decide) (by omega) ?_; walk_at "c_found") | (refine r_none (pat_65 (by walk_at "c_in")) (by with_reducible assumption) (by with_reducible assumption) ?_))
  k_with "call ref" => ((with_reducible show wpAny _ _ (call (Value.ref 50) [Value.ref _] _) _ _ _); (refine r_unm (by k_asm) (by k_asm) (by k_asm) (by k_asm) (by walk_at "c_room") (by k_mem) (by k_mem) (by with_reducible assumption) (by first | exact Tok1.le (by with_reducible assumption) | (simp only [List.length_cons, List.length_append, List.length_nil]; omega)) (by first | exact Tok1.drop (by with_reducible assumption) | exact drop_quo _ | exact drop_val _) ?_); intro _ _ _ _ _)
  k_with "call builtin:re.Match.group" => ((refine r_group (by k_asm) (by k_mem) (by k_mem) (by with_reducible assumption) (by first | exact Tok1.key (by with_reducible assumption) | exact take_quo _ | exact take_val _) ?_); intro _ _)
  k_with "call builtin:re.Pattern.sub" => ((with_reducible show wpAny _ _ (call _ [Value.ref 70, _, _]) _ _ _); (refine r_sub (by k_asm) (by k_asm) (by k_asm) (by with_reducible assumption) (by with_reducible assumption) (by k_mem) (by with_reducible assumption) ?_); intro _ _ _ _ _)
  k_with "call builtin:re.Pattern.subn" => ((refine r_subn (by k_asm) (by k_asm) (by k_asm) (by with_reducible assumption) (by with_reducible assumption) ?_); intro _ _ _ _ _ _ _ l1; (try k_lt l1))
  k_with "call builtin:str.lstrip" => ((refine k_lstrip (by with_reducible assumption) (by with_reducible assumption) ?_); intro _ _)
  k_with "call builtin:str.rstrip" => ((refine k_rstrip (by with_reducible assumption) (by with_reducible assumption) ?_); intro _ _)
  k_with "call builtin:str.startswith" => ((refine k_starts (by with_reducible assumption) ?_))
  k_with "truthy str" => first | ((refine k_truthyT (by with_reducible assumption) ?_); intro k') | ((refine k_truthyF ?_); intro k') | ((refine k_truthyK (by with_reducible assumption) ?_); intro _)
  trivial

section
/-- what the lists are when the last pair comes -/
inductive Bef : Int → List Value → List Value → List (Addr × Obj) → Prop
  | zero : Bef 0 [] [] []
  | one (U : Addr) (tu : Tok) : Bef 1 [.ref U] [] [(U, tupO [.str (sz [119]) tu, .none])]
  | two (P U : Addr) (n : Nat) (tu : Tok) (h : @LT.lt Nat _ P U) : Bef 2 [] [.ref P] [(P, listOf #[.ref U] n), (U, tupO [.str (sz [119]) tu, .none])]
structure Sp where
  l : List Int
  tt : Tok
  pa : Addr
  its : List Value
  n1 : Nat
  res : List Value
  n2 : Nat
  own : List (Addr × Obj)
  ps : Array Value
/-- the stages of the loop over a text -/
inductive Stg (sh k : Int) (v val : List Int) : List Int → List Value → List Value → List (Addr × Obj) → Addr → Prop
  | start (d : Int) (pa : Addr) (hd : (d = 59 ∧ sh = 1) ∨ (d = 44 ∧ sh = 2)) : Stg sh k v val (119 :: d :: 32 :: k :: 61 :: val) [] [] [] pa
  | mid (d : Int) (U : Addr) (tu : Tok) (pa : Addr) (hd : (d = 59 ∧ sh = 1) ∨ (d = 44 ∧ sh = 2)) (hU : @LT.lt Nat _ pa U) : Stg sh k v val (d :: 32 :: k :: 61 :: val) [.ref U] [] [(U, tupO [.str (sz [119]) tu, .none])] pa
  | last (l : List Int) (j : Nat) (its res : List Value) (own : List (Addr × Obj)) (pa : Addr) (hT : Tok1 l j k (61 :: val)) (hB : Bef sh its res own) : Stg sh k v val l its res own pa
  | done (its res : List Value) (own : List (Addr × Obj)) (T : Addr) (t1 t2 : Tok) (pa : Addr) (hB : Bef sh its res own) (hT : @LT.lt Nat _ pa T) : Stg sh k v val [] (its ++ [.ref T]) res ((T, tupO [.str (sz [k]) t1, .str (sz v) t2]) :: own) pa
noncomputable abbrev own_of (U : Addr) (tu : Tok) : List (Addr × Obj) := [(U, tupO [.str (sz [119]) tu, .none])]
noncomputable abbrev failQ (l : List Int) : Prop := Fails (Sre.forSearch cQUOTED (sz l).cps 1 0 (sz l).cps.size false) 300000
noncomputable abbrev failV (l : List Int) : Prop := Fails (Sre.forSearch cVALUE (sz l).cps 1 0 (sz l).cps.size false) 300000
noncomputable abbrev failT (l : List Int) : Prop := Fails (Sre.forSearch cTOKEN (sz l).cps 1 0 (sz l).cps.size false) 300000
theorem off_nil {adr : List Addr} : OwnOff [] adr := fun _ h => nomatch h
theorem off_cons {a : Addr} {o : Obj} {own : List (Addr × Obj)} {adr : List Addr} (h : ∀ b ∈ adr, a ≠ b) (t : OwnOff own adr) : OwnOff ((a, o) :: own) adr := fun p hp b hb => by
  rcases List.mem_cons.mp hp with rfl | hp
  · exact h b hb
  · exact t p hp b hb
theorem ne_4 {a x2 x3 x4 x5 : Addr} (h2 : a ≠ x2) (h3 : a ≠ x3) (h4 : a ≠ x4) (h5 : a ≠ x5) : ∀ b ∈ [x2, x3, x4, x5], a ≠ b :=
  List.forall_mem_cons.mpr ⟨h2, List.forall_mem_cons.mpr ⟨h3, List.forall_mem_cons.mpr ⟨h4, List.forall_mem_cons.mpr ⟨h5, fun _ h => nomatch h⟩⟩⟩⟩
theorem ne_5 {a x1 x2 x3 x4 x5 : Addr} (h1 : a ≠ x1) (h : ∀ b ∈ [x2, x3, x4, x5], a ≠ b) : ∀ b ∈ [x1, x2, x3, x4, x5], a ≠ b := List.forall_mem_cons.mpr ⟨h1, h⟩
theorem d_cases {d sh : Int} (h : (d = 59 ∧ sh = 1) ∨ (d = 44 ∧ sh = 2)) : d = 59 ∨ d = 44 := h.elim (fun h => .inl h.1) (fun h => .inr h.1)
theorem as_cons {c : Int} {l : List Int} (h : 0 ≤ c ∧ c < 128) (t : As l) : As (c :: l) := fun x hx => by
  rcases List.mem_cons.mp hx with rfl | hx
  · exact h
  · exact t x hx
theorem ks_as {k : Int} (h : Ks k) : 0 ≤ k ∧ k < 128 := ⟨Int.le_trans (by decide) h.1, Int.lt_of_le_of_lt h.2 (by decide)⟩
/-- what holds at the first turn -/
structure SpA (d k : Int) (val : List Int) : Prop where
  z1 : (119 :: d :: 32 :: k :: 61 :: val).length ≤ 100000
  z2 : (d :: 32 :: k :: 61 :: val).length ≤ 100000
  T1 : Tok1 (119 :: d :: 32 :: k :: 61 :: val) 0 119 (d :: 32 :: k :: 61 :: val)
  Q1 : failQ (d :: 32 :: k :: 61 :: val)
  V1 : failV (d :: 32 :: k :: 61 :: val)
structure SpB (d k : Int) (val : List Int) : Prop where
  z1 : (d :: 32 :: k :: 61 :: val).length ≤ 100000
  z2 : (32 :: k :: 61 :: val).length ≤ 100000
  T1 : failT (d :: 32 :: k :: 61 :: val)
  hs : Unicode.isSpace d.toNat = false
  h0 : 0 ≤ d
theorem val_as {v val : List Int} (hv : Vl v) (hval : val = v ∨ val = 34 :: (v ++ [34])) : As val := by rcases hval with rfl | rfl; (· exact vl_as hv); exact vl_as2 hv
theorem ld_as {k : Int} {val : List Int} (hk : Ks k) (hA : As val) : As (32 :: k :: 61 :: val) := as_cons (by decide) (as_cons (ks_as hk) (as_cons (by decide) hA))
theorem spA {d sh k : Int} {v val : List Int} (hk : Ks k) (hv : Vl v) (hval : val = v ∨ val = 34 :: (v ++ [34])) (hd : (d = 59 ∧ sh = 1) ∨ (d = 44 ∧ sh = 2)) (hz : (119 :: d :: 32 :: k :: 61 :: val).length ≤ 50000) : SpA d k val := by
  have z1 := Nat.le_trans hz (show 50000 ≤ 100000 by decide)
  have z2 : (d :: 32 :: k :: 61 :: val).length ≤ 100000 := Nat.le_of_succ_le z1
  have hA := ld_as hk (val_as hv hval)
  rcases d_cases hd with rfl | rfl
  · exact ⟨z1, z2, .zero (by unfold Ks; decide) (by decide +kernel) (as_cons (by decide) (as_cons (by decide) hA)) z1, quo_none (by decide +kernel) (.inl (by decide)) (by decide) z2, val_none (by decide +kernel) (by decide) (by decide) z2⟩
  · exact ⟨z1, z2, .zero (by unfold Ks; decide) (by decide +kernel) (as_cons (by decide) (as_cons (by decide) hA)) z1, quo_none (by decide +kernel) (.inl (by decide)) (by decide) z2, val_none (by decide +kernel) (by decide) (by decide) z2⟩
theorem spB {d sh k : Int} {v val : List Int} (hk : Ks k) (hv : Vl v) (hval : val = v ∨ val = 34 :: (v ++ [34])) (hd : (d = 59 ∧ sh = 1) ∨ (d = 44 ∧ sh = 2)) (hz : (d :: 32 :: k :: 61 :: val).length ≤ 50000) : SpB d k val := by
  have z1 := Nat.le_trans hz (show 50000 ≤ 100000 by decide)
  have hA := ld_as hk (val_as hv hval)
  rcases d_cases hd with rfl | rfl
  · exact ⟨z1, Nat.le_of_succ_le z1, tok_none (by decide +kernel) (by decide +kernel) (as_cons (by decide) hA) z1, by decide +kernel, by decide⟩
  · exact ⟨z1, Nat.le_of_succ_le z1, tok_none (by decide +kernel) (by decide +kernel) (as_cons (by decide) hA) z1, by decide +kernel, by decide⟩
theorem quo_bare {v : List Int} (hv : Vl v) (hz : (61 :: v).length ≤ 100000) : failQ (61 :: v) :=
  quo_none (by decide +kernel) (.inr ⟨rfl, fun c hc => hv c (by cases v with | nil => cases hc | cons x y => cases hc; exact .head _)⟩) (by decide) hz
theorem len_q {v : List Int} (h : (34 :: (v ++ [34])).length ≤ 49000) : (61 :: (34 :: (v ++ [34]))).length ≤ 100000 ∧ v.length ≤ 50000 ∧ v.length ≤ 99990 := by
  simp only [List.length_cons, List.length_append, List.length_nil] at h ⊢
  omega
/-- what holds at every turn -/
structure SpI (sh k : Int) (v val : List Int) (I Rs H : Addr) (c : Sp) : Prop where
  stg : Stg sh k v val c.l c.its c.res c.own c.pa
  len : c.l.length ≤ 50000
  a : @LT.lt Nat _ I c.pa ∧ @LT.lt Nat _ Rs c.pa ∧ @LT.lt Nat _ H c.pa ∧ @LT.lt Nat _ 72 c.pa
  off : OwnOff c.own [c.pa, I, Rs, H, 72]
theorem gt_4 {a I Rs H : Addr} (a1 : @LT.lt Nat _ I a) (a2 : @LT.lt Nat _ Rs a) (a3 : @LT.lt Nat _ H a) (a4 : @LT.lt Nat _ 72 a) : ∀ b ∈ [I, Rs, H, 72], a ≠ b :=
  ne_4 (Nat.ne_of_gt a1) (Nat.ne_of_gt a2) (Nat.ne_of_gt a3) (Nat.ne_of_gt a4)
section
variable {sh k : Int} {v val : List Int} {I Rs H pa : Addr} {t : Tok} {n1 n2 : Nat} {ps : Array Value}
theorem sp_mid {d : Int} {U : Addr} {tu : Tok} (hd : (d = 59 ∧ sh = 1) ∨ (d = 44 ∧ sh = 2)) (hz : (119 :: d :: 32 :: k :: 61 :: val).length ≤ 50000) (a : @LT.lt Nat _ I pa ∧ @LT.lt Nat _ Rs pa ∧ @LT.lt Nat _ H pa ∧ @LT.lt Nat _ 72 pa) (hU : @LT.lt Nat _ pa U) :
    SpI sh k v val I Rs H ⟨d :: 32 :: k :: 61 :: val, t, pa, [.ref U], n1, [], n2, [(U, tupO [.str (sz [119]) tu, .none])], ps⟩ :=
  ⟨.mid d U tu pa hd hU, Nat.le_of_succ_le hz, a, off_cons (ne_5 (Nat.ne_of_gt hU) (gt_4 (Nat.lt_trans a.1 hU) (Nat.lt_trans a.2.1 hU) (Nat.lt_trans a.2.2.1 hU) (Nat.lt_trans a.2.2.2 hU))) off_nil⟩
theorem sp_last1 {U : Addr} {tu : Tok} (hk : Ks k) (hA : As (32 :: k :: 61 :: val)) (hz : (59 :: 32 :: k :: 61 :: val).length ≤ 50000) (a : @LT.lt Nat _ I pa ∧ @LT.lt Nat _ Rs pa ∧ @LT.lt Nat _ H pa ∧ @LT.lt Nat _ 72 pa) (hoff : OwnOff (own_of U tu) [pa, I, Rs, H, 72]) :
    SpI 1 k v val I Rs H ⟨k :: 61 :: val, t, pa, [.ref U], n1, [], n2, [(U, tupO [.str (sz [119]) tu, .none])], ps⟩ :=
  have hz' : (k :: 61 :: val).length ≤ 50000 := Nat.le_of_succ_le (Nat.le_of_succ_le hz)
  ⟨.last _ 0 _ _ _ _ (.zero hk (by decide +kernel) (fun c hc => hA c (.tail _ hc)) (Nat.le_trans hz' (by decide))) (.one U tu), hz', a, hoff⟩
theorem sp_last2 {U p2 : Addr} {tu : Tok} {n0 : Nat} (hk : Ks k) (hA : As (32 :: k :: 61 :: val)) (hz : (44 :: 32 :: k :: 61 :: val).length ≤ 50000) (a : @LT.lt Nat _ I pa ∧ @LT.lt Nat _ Rs pa ∧ @LT.lt Nat _ H pa ∧ @LT.lt Nat _ 72 pa) (hU : @LT.lt Nat _ pa U) (hoff : OwnOff (own_of U tu) [pa, I, Rs, H, 72])
    (b : @LT.lt Nat _ I p2 ∧ @LT.lt Nat _ Rs p2 ∧ @LT.lt Nat _ H p2 ∧ @LT.lt Nat _ 72 p2) (b1 : @LT.lt Nat _ pa p2) (b2 : @LT.lt Nat _ U p2) :
    SpI 2 k v val I Rs H ⟨32 :: k :: 61 :: val, t, p2, [], n1, [.ref pa], n2, [(pa, listOf #[.ref U] n0), (U, tupO [.str (sz [119]) tu, .none])], ps⟩ :=
  have hz' : (32 :: k :: 61 :: val).length ≤ 50000 := Nat.le_of_succ_le hz
  ⟨.last _ 1 _ _ _ _ (.one hk (by decide +kernel) hA (Nat.le_trans hz' (by decide))) (.two pa U n0 tu hU), hz', b, off_cons (ne_5 (Nat.ne_of_lt b1) (gt_4 a.1 a.2.1 a.2.2.1 a.2.2.2)) (off_cons (ne_5 (Nat.ne_of_lt b2) (fun x hx => hoff (U, _) (.head _) x (.tail _ hx))) off_nil)⟩
theorem sp_done {T : Addr} {t1 t2 : Tok} {its res : List Value} {own : List (Addr × Obj)} (hB : Bef sh its res own) (a : @LT.lt Nat _ I pa ∧ @LT.lt Nat _ Rs pa ∧ @LT.lt Nat _ H pa ∧ @LT.lt Nat _ 72 pa) (hT : @LT.lt Nat _ pa T) (hoff : OwnOff own [pa, I, Rs, H, 72]) :
    SpI sh k v val I Rs H ⟨[], t, pa, its ++ [.ref T], n1, res, n2, (T, tupO [.str (sz [k]) t1, .str (sz v) t2]) :: own, ps⟩ :=
  ⟨.done its res own T t1 t2 pa hB hT, Nat.zero_le _, a, off_cons (ne_5 (Nat.ne_of_gt hT) (gt_4 (Nat.lt_trans a.1 hT) (Nat.lt_trans a.2.1 hT) (Nat.lt_trans a.2.2.1 hT) (Nat.lt_trans a.2.2.2 hT))) hoff⟩
theorem mu_0 {l : List Int} {j : Nat} {k : Int} {r : List Int} (h : Tok1 l j k r) : ([] : List Int).length < l.length := Nat.lt_of_lt_of_le (Nat.succ_pos j) h.le
theorem mu_2 {a b : Int} {l : List Int} : l.length < (a :: b :: l).length := Nat.lt_succ_of_lt (Nat.lt_succ_self _)
theorem lt_mid {l : List Int} (h : l.length ≤ 50000) : l.length ≤ 100000 := Nat.le_trans h (by decide)
theorem bef_its {its res : List Value} {own : List (Addr × Obj)} (hB : Bef sh its res own) : its.length ≤ 1 := by cases hB <;> simp
end
theorem s_split (w : World) (H : Addr) (nH : Nat) (tH : Tok) (sh k : Int) (v val l : List Int) (hk : Ks k) (hv : Vl v) (hval : val = v ∨ val = 34 :: (v ++ [34])) (hz : l.length ≤ 50000) (hzv : val.length ≤ 49000) (hs : ∀ pa, Stg sh k v val l [] [] [] pa) (ps : Array Value) (hps : TabOk posS ps) (hH : @LT.lt Nat _ 72 H) :
    SpecX w 77 2 30 [.ref H] [] [(H, listOf #[.str (sz l) tH] nH), (72, tabObj ps)]
      (fun h v' h' => (∃ ps', TabOk posS ps' ∧ Heap.ExtBut 72 h h' ∧ h'.get? 72 = some (tabObj ps')) ∧ ∃ news, Lists (sz [k]) (sz v) sh v' news ∧ ∀ q ∈ news, h'.get? q.1 = some q.2 ∧ h.get? q.1 = none) := by
  intro p loose mean mg mb dp un fr gd s Q E g hR hX hT hst has hQ
  have hXS := Frag.In.keeps hX hst
  walk_at "c_enterX"
  intro b₀ L h₁ tk B X' T' F N
  replace F : Fr b₀ L h₁ (fun y => List.lookup y [(Str.ofString "header_values", Value.ref H)]) := F
  have hC := code_77 X'
  (try dsimp only)
  walk_at "c_steps"
  rename_i Rs _ l1a _ I l1b it' _ _ hit' _ _ _ _ _ Pa _ l1c _ F' N'
  refine' ksw_while (σ := Sp) (fun c => (c.pa, listOf c.its.toArray c.n1) :: (I, it') :: (Rs, listOf c.res.toArray c.n2) :: (H, listOf #[.str (sz l) tH] nH) :: (72, tabObj c.ps) :: c.own)
    (fun c => [(Str.ofString "text", .str (sz c.l) c.tt), (Str.ofString "pairs", .ref c.pa)]) (fun c => TabOk posS c.ps) [Str.ofString "m", Str.ofString "name", Str.ofString "value", Str.ofString "non_junk", Str.ofString "nr_junk_chars"]
    (SpI sh k v val I Rs H) (fun c => c.l.length) ⟨l, tH, Pa, [], 0, [], 0, [], ps⟩ F' ?kn ?kf ?kk ?kp ?_
  (case kn => exact N')
  (case kk => kst_all)
  (case kf => exact hps)
  (case kp => exact ⟨hs _, hz, ⟨l1c.1, l1c.2.1, l1c.2.2.1, l1c.2.2.2.1⟩, off_nil⟩)
  rintro ⟨l, tt, pa, its, n1, res, n2, own, ps⟩ u h tk' hf hP F1 N1
  clear F' N' l1c
  dsimp only at hf F1 N1 ⊢
  replace F1 : Fr b₀ L _ _ := F1
  simp only [kstB, List.contains_cons, List.contains_nil, Bool.or_false] at F1
  replace N1 : News b₀ L _ _ := N1
  have hS := hP.stg
  have hz := hP.len
  have ha := hP.a
  have hoff := hP.off
  dsimp only at hS hz ha hoff
  clear hP
  revert F1 N1
  cases hS with
  | start d pa hd =>
    have hA := spA hk hv hval hd hz
    have hz1 := hA.z1
    have hz2 := hA.z2
    have hT1 := hA.T1
    have hQ1 := hA.Q1
    have hV1 := hA.V1
    clear hA
    intro F1 N1
    k_steps
    (rename News _ _ _ _ => nE); (simp only [List.push_toArray, List.nil_append] at nE)
    exact ksw_end (σ := Sp) ⟨d :: 32 :: k :: 61 :: val, _, pa, [.ref _], _, [], _, [(_, tupO [.str (sz [119]) _, .none])], ps⟩ (by assumption) nE (by kst_in) hf (by kst_all) (by ksw_same) (sp_mid hd hz ha (by walk_at "c_lt")) (Nat.lt_succ_self _)
  | mid d U tu pa hd hU =>
    have hA := spB hk hv hval hd hz
    have hA0 := ld_as hk (val_as hv hval)
    have hz1 := hA.z1
    have hT1 := hA.T1
    have hz3 := hA.z2
    have hds := hA.hs
    have hd0 := hA.h0
    have hdn : ∀ p ∈ own_of U tu, p.1 ≠ pa := fun p hp => hoff p hp pa (.head _)
    clear hA
    rcases hd with ⟨rfl, rfl⟩ | ⟨rfl, rfl⟩
    · intro F1 N1
      k_steps
      (rename News _ _ _ _ => nE)
      exact ksw_end (σ := Sp) ⟨k :: 61 :: val, _, pa, [.ref U], n1, [], n2, [(U, tupO [.str (sz [119]) tu, .none])], ps⟩ (by assumption) nE (by kst_in) hf (by kst_all) (by ksw_same) (sp_last1 hk hA0 hz ha hoff) mu_2
    · have hlen : (sz (44 :: 32 :: k :: 61 :: val)).length ≤ 100000 := by rw [len_sz]; exact hz1
      intro F1 N1
      k_steps
      (rename News _ _ _ _ => nE); (rename Fr _ _ _ _ => fE)
      rw [slice_1] at fE
      exact ksw_end (σ := Sp) ⟨32 :: k :: 61 :: val, _, _, [], _, [.ref pa], _, [(pa, listOf #[.ref U] n1), (U, tupO [.str (sz [119]) tu, .none])], ps⟩ fE nE (by kst_in) hf (by kst_all) (by ksw_same) (sp_last2 hk hA0 hz ha hU hoff ⟨by walk_at "c_lt", by walk_at "c_lt", by walk_at "c_lt", by walk_at "c_lt"⟩ (by walk_at "c_lt") (by walk_at "c_lt")) (Nat.lt_succ_self _)
  | last l j its res own pa hT hB =>
    have hzl := lt_mid hz
    have hits := bef_its hB
    rcases hval with rfl | rfl
    · have hz1 : (61 :: val).length ≤ 100000 := Nat.le_trans (Nat.succ_le_succ hzv) (by decide)
      have hz2 : val.length ≤ 100000 := Nat.le_of_succ_le hz1
      have hQ1 := quo_bare hv hz1
      have hV1 := val_one hv (Nat.le_trans hzv (by decide))
      intro F1 N1
      k_steps
      (rename News _ _ _ _ => nE); (simp only [List.push_toArray] at nE)
      exact ksw_end (σ := Sp) ⟨[], _, pa, its ++ [.ref _], _, res, _, (_, tupO [.str (sz [k]) _, .str (sz val) _]) :: own, _⟩ (by assumption) nE (by first | kst_in | kst_inAny) (by with_reducible assumption) (by kst_all) (by ksw_same) (sp_done hB ha (by walk_at "c_lt") hoff) (mu_0 hT)
    · have hzq := len_q hzv
      have hz1 : (61 :: (34 :: (v ++ [34]))).length ≤ 100000 := hzq.1
      have hz2 : v.length ≤ 50000 := hzq.2.1
      have hz3 : (61 :: (34 :: (v ++ [34]))).length ≤ 100000 := hz1
      have hQ1 : Goes (Sre.forSearch cQUOTED (sz (61 :: (34 :: (v ++ [34])))).cps 1 0 (sz (61 :: (34 :: (v ++ [34])))).cps.size false) (won cQUOTED (sz (61 :: (34 :: (v ++ [34])))).cps (v.length + 3) (v.length + 1) (3 + v.length) #[some 2, some (2 + v.length)] 1 1) 30 := quo_one hv hzq.2.2
      clear hzq
      intro F1 N1
      k_steps
      (rename News _ _ _ _ => nE); (simp only [List.push_toArray] at nE)
      exact ksw_end (σ := Sp) ⟨[], _, pa, its ++ [.ref _], _, res, _, (_, tupO [.str (sz [k]) _, .str (sz v) _]) :: own, _⟩ (by assumption) nE (by first | kst_in | kst_inAny) (by with_reducible assumption) (by kst_all) (by ksw_same) (sp_done hB ha (by walk_at "c_lt") hoff) (mu_0 hT)
  | done its res own T t1 t2 pa hB hT =>
    cases hB with
    | zero =>
      intro F1 N1
      k_steps
      (rename News _ _ _ _ => nE); (rename Fr _ _ _ _ => fE)
      (try simp only [List.push_toArray, List.nil_append, List.cons_append] at nE)
      walk_at "c_out"
      refine hQ _ _ _ ⟨⟨ps, hf, B.extBut fE.keep (by walk_at "c_as"), nE.get (by k_mem)⟩, ⟨[(Rs, _), (pa, _), (T, _)], .zero Rs pa T (n2 + 1) n1 t1 t2, ?_⟩⟩
      repeat' (first | (refine List.forall_mem_cons.mpr ⟨?_, ?_⟩) | (intro q' h'; exact absurd h' List.not_mem_nil))
      all_goals (refine ⟨nE.get (by k_mem), B.fresh ((nE _ (by k_mem)).2.2) ?_⟩; simp only [List.map_cons, List.map_nil, List.mem_cons, List.not_mem_nil, or_false, not_or])
      all_goals first | exact ⟨Nat.ne_of_gt (by omega), Nat.ne_of_gt (by omega)⟩ | exact ⟨hoff (_, _) (by k_mem) H (by simp), hoff (_, _) (by k_mem) 72 (by simp)⟩
    | one U tu =>
      intro F1 N1
      k_steps
      (rename News _ _ _ _ => nE); (rename Fr _ _ _ _ => fE)
      (try simp only [List.push_toArray, List.nil_append, List.cons_append] at nE)
      walk_at "c_out"
      refine hQ _ _ _ ⟨⟨ps, hf, B.extBut fE.keep (by walk_at "c_as"), nE.get (by k_mem)⟩, ⟨[(Rs, _), (pa, _), (U, _), (T, _)], .one Rs pa U T (n2 + 1) n1 t1 t2 tu, ?_⟩⟩
      repeat' (first | (refine List.forall_mem_cons.mpr ⟨?_, ?_⟩) | (intro q' h'; exact absurd h' List.not_mem_nil))
      all_goals (refine ⟨nE.get (by k_mem), B.fresh ((nE _ (by k_mem)).2.2) ?_⟩; simp only [List.map_cons, List.map_nil, List.mem_cons, List.not_mem_nil, or_false, not_or])
      all_goals first | exact ⟨Nat.ne_of_gt (by omega), Nat.ne_of_gt (by omega)⟩ | exact ⟨hoff (_, _) (by k_mem) H (by simp), hoff (_, _) (by k_mem) 72 (by simp)⟩
    | two P U n tu hPU =>
      intro F1 N1
      k_steps
      (rename News _ _ _ _ => nE); (rename Fr _ _ _ _ => fE)
      (try simp only [List.push_toArray, List.nil_append, List.cons_append] at nE)
      walk_at "c_out"
      refine hQ _ _ _ ⟨⟨ps, hf, B.extBut fE.keep (by walk_at "c_as"), nE.get (by k_mem)⟩, ⟨[(Rs, _), (P, _), (pa, _), (U, _), (T, _)], .two Rs P pa U T (n2 + 1) n n1 t1 t2 tu, ?_⟩⟩
      repeat' (first | (refine List.forall_mem_cons.mpr ⟨?_, ?_⟩) | (intro q' h'; exact absurd h' List.not_mem_nil))
      all_goals (refine ⟨nE.get (by k_mem), B.fresh ((nE _ (by k_mem)).2.2) ?_⟩; simp only [List.map_cons, List.map_nil, List.mem_cons, List.not_mem_nil, or_false, not_or])
      all_goals first | exact ⟨Nat.ne_of_gt (by omega), Nat.ne_of_gt (by omega)⟩ | exact ⟨hoff (_, _) (by k_mem) H (by simp), hoff (_, _) (by k_mem) 72 (by simp)⟩
end

section
theorem s_lists (w : World) (T : Addr) (key val : Str) (t1 t2 : Tok) (sh : Int) (u : Tok) (h0 : 0 ≤ sh) (h2 : sh < 3) :
    SpecX w 260 1 20 [.int sh u, .ref T] [] [(T, tupO [.str key t1, .str val t2])] (fun h v h' => h.StaysIn h' ∧ ∃ nw, Lists key val sh v (nw ++ [(T, tupO [.str key t1, .str val t2])]) ∧ ∀ q ∈ nw, h'.get? q.1 = some q.2 ∧ h.get? q.1 = none ∧ @LT.lt Nat _ T q.1) := by
  intro p loose mean mg mb dp un fr gd s Q E g hR hX hT hst has hQ
  have hXS := Frag.In.keeps hX hst
  walk_at "c_enterX"
  intro b₀ L h₁ tk B X' T' F N
  replace F : Fr b₀ L h₁ (fun y => List.lookup y [(Str.ofString "pair", Value.ref T), (Str.ofString "shape", Value.int sh u)]) := F
  (try dsimp only)
  k_steps
  · have hsh : sh = 0 := by assumption
    subst hsh
    (rename News _ _ _ _ => nE); (rename Fr _ _ _ _ => fE)
    rw [sz_w] at nE
    have fr : ∀ a o, (a, o) ∈ _ → @LT.lt Nat _ T a → s.heap.get? a = none := fun a o hm hlt => B.fresh (nE (a, o) hm).2.2 (by simpa using Nat.ne_of_gt hlt)
    walk_at "c_out"
    exact hQ _ _ _ ⟨B.stays fE.keep (List.forall_mem_cons.mpr ⟨nE.get (by k_mem), fun _ h => absurd h List.not_mem_nil⟩), ⟨[(_, _), (_, _)], .zero _ _ T _ _ t1 t2, (List.forall_mem_cons.mpr ⟨⟨nE.get (by k_mem), fr _ _ (by k_mem) (by omega), by omega⟩, (List.forall_mem_cons.mpr ⟨⟨nE.get (by k_mem), fr _ _ (by k_mem) (by omega), by omega⟩, (fun _ h => absurd h List.not_mem_nil)⟩)⟩)⟩⟩
  · have hsh : sh = 1 := by assumption
    subst hsh
    (rename News _ _ _ _ => nE); (rename Fr _ _ _ _ => fE)
    rw [sz_w] at nE
    have fr : ∀ a o, (a, o) ∈ _ → @LT.lt Nat _ T a → s.heap.get? a = none := fun a o hm hlt => B.fresh (nE (a, o) hm).2.2 (by simpa using Nat.ne_of_gt hlt)
    walk_at "c_out"
    exact hQ _ _ _ ⟨B.stays fE.keep (List.forall_mem_cons.mpr ⟨nE.get (by k_mem), fun _ h => absurd h List.not_mem_nil⟩), ⟨[(_, _), (_, _), (_, _)], .one _ _ _ T _ _ t1 t2 _, (List.forall_mem_cons.mpr ⟨⟨nE.get (by k_mem), fr _ _ (by k_mem) (by omega), by omega⟩, (List.forall_mem_cons.mpr ⟨⟨nE.get (by k_mem), fr _ _ (by k_mem) (by omega), by omega⟩, (List.forall_mem_cons.mpr ⟨⟨nE.get (by k_mem), fr _ _ (by k_mem) (by omega), by omega⟩, (fun _ h => absurd h List.not_mem_nil)⟩)⟩)⟩)⟩⟩
  · have hsh : sh = 2 := by assumption
    subst hsh
    (rename News _ _ _ _ => nE); (rename Fr _ _ _ _ => fE)
    rw [sz_w] at nE
    have fr : ∀ a o, (a, o) ∈ _ → @LT.lt Nat _ T a → s.heap.get? a = none := fun a o hm hlt => B.fresh (nE (a, o) hm).2.2 (by simpa using Nat.ne_of_gt hlt)
    walk_at "c_out"
    exact hQ _ _ _ ⟨B.stays fE.keep (List.forall_mem_cons.mpr ⟨nE.get (by k_mem), fun _ h => absurd h List.not_mem_nil⟩), ⟨[(_, _), (_, _), (_, _), (_, _)], .two _ _ _ _ T _ _ _ t1 t2 _, (List.forall_mem_cons.mpr ⟨⟨nE.get (by k_mem), fr _ _ (by k_mem) (by omega), by omega⟩, (List.forall_mem_cons.mpr ⟨⟨nE.get (by k_mem), fr _ _ (by k_mem) (by omega), by omega⟩, (List.forall_mem_cons.mpr ⟨⟨nE.get (by k_mem), fr _ _ (by k_mem) (by omega), by omega⟩, (List.forall_mem_cons.mpr ⟨⟨nE.get (by k_mem), fr _ _ (by k_mem) (by omega), by omega⟩, (fun _ h => absurd h List.not_mem_nil)⟩)⟩)⟩)⟩)⟩⟩
end

theorem words_w_read_1 : True := by
  k_with "call ref" => ((with_reducible show wpAny _ _ (call (Value.ref 203) [Value.str _ _, _, _] _) _ _ _); (refine use_specV (s_b64dec_str _ _ (by assumption) _ _ (by assumption)) (by walk_at "c_room") (by k_asm) (by k_asm) (by k_asm) (by k_asm) ?_); intro _ _ _ _ _)
  k_with "call ref" => ((with_reducible show wpAny _ _ (call (Value.ref 217) [Value.str _ _] _) _ _ _); (refine use_specV (s_urldec _ _ (by assumption) _ (by assumption)) (by walk_at "c_room") (by k_asm) (by k_asm) (by k_asm) (by k_asm) ?_); intro _ _ _ _ _)
  k_with "call ref" => ((with_reducible show wpAny _ _ (call (Value.ref 232) [Value.str _ _] _) _ _ _); (refine use_specV (s_b16dec _ _ (by assumption) _ (by assumption)) (by walk_at "c_room") (by k_asm) (by k_asm) (by k_asm) (by k_asm) ?_); intro _ _ _ _ _)
  trivial
theorem s_read (w : World) (K : List Int) (hK : Oct K) (t u : Tok) (k : Int) (h0 : 0 ≤ k) (h2 : k < 3) (hb : K.length ≤ 5000) : Spec w 253 5 35 [.str (sz (encW k K)) t, .int k u] [] (fun v _ => ∃ t', v = .bytes (bz K) t') := by
  obtain rfl | rfl | rfl : k = 0 ∨ k = 1 ∨ k = 2 := by omega
  · show Spec w 253 5 35 [.str (sz (enc64 K)) t, .int 0 u] [] _
    intro p loose mean mg mb dp un fr gd s Q E hR hX hT hQ
    walk_at "c_enter"
    intro L h₁ tk F N
    replace F : Fr s.heap L h₁ (fun y => List.lookup y [(Str.ofString "way", Value.int 0 u), (Str.ofString "value", Value.str (sz (enc64 K)) t)]) := F
    (try dsimp only)
    k_steps
    exact hQ _ _ _ (by walk_at "c_keep") ⟨_, rfl⟩
  · show Spec w 253 5 35 [.str (sz (encU K)) t, .int 1 u] [] _
    intro p loose mean mg mb dp un fr gd s Q E hR hX hT hQ
    walk_at "c_enter"
    intro L h₁ tk F N
    replace F : Fr s.heap L h₁ (fun y => List.lookup y [(Str.ofString "way", Value.int 1 u), (Str.ofString "value", Value.str (sz (encU K)) t)]) := F
    (try dsimp only)
    k_steps
    exact hQ _ _ _ (by walk_at "c_keep") ⟨_, rfl⟩
  · show Spec w 253 5 35 [.str (sz (enc16 K)) t, .int 2 u] [] _
    intro p loose mean mg mb dp un fr gd s Q E hR hX hT hQ
    walk_at "c_enter"
    intro L h₁ tk F N
    replace F : Fr s.heap L h₁ (fun y => List.lookup y [(Str.ofString "way", Value.int 2 u), (Str.ofString "value", Value.str (sz (enc16 K)) t)]) := F
    (try dsimp only)
    k_steps
    exact hQ _ _ _ (by walk_at "c_keep") ⟨_, rfl⟩

section
/-- a level: what was laid, and the next text -/
structure Lv (key : Int) (K K' : List Int) (T : Addr) (own : List (Addr × Obj)) : Prop where
  ex : ∃ (wy sh : Int) (u : Tok) (Rv : Value) (nw : List (Addr × Obj)), 0 ≤ wy ∧ wy < 3 ∧ 0 ≤ sh ∧ sh < 3 ∧ Lists (sz [key]) (sz (encW wy K)) sh Rv nw ∧ (∀ q ∈ nw, q ∈ own) ∧ (T, tupO [.int wy u, Rv]) ∈ own ∧ K' = dueL sh key (encW wy K)
theorem Lv.mono {key : Int} {K K' : List Int} {T : Addr} {own own' : List (Addr × Obj)} (l : Lv key K K' T own) (h : ∀ q ∈ own, q ∈ own') : Lv key K K' T own' := by
  obtain ⟨wy, sh, u, Rv, nw, a, b, c, d, e, f, g, i⟩ := l.ex
  exact ⟨wy, sh, u, Rv, nw, a, b, c, d, e, fun q hq => h q (f q hq), h _ g, i⟩
theorem Lv.len {key : Int} {K K' : List Int} {T : Addr} {own : List (Addr × Obj)} (l : Lv key K K' T own) (hK : Oct K) : K'.length ≤ 2 * K.length + 11 := by
  obtain ⟨wy, sh, u, Rv, nw, a, b, c, d, e, f, g, rfl⟩ := l.ex
  have := dueL_len sh key (encW wy K)
  have := encW_len (k := wy) hK
  omega
theorem Lv.as {key : Int} {K K' : List Int} {T : Addr} {own : List (Addr × Obj)} (l : Lv key K K' T own) (hk : Ks key) (hK : Oct K) : As K' := by
  obtain ⟨wy, sh, u, Rv, nw, a, b, c, d, e, f, g, rfl⟩ := l.ex
  exact dueL_as hk (encW_vl hK)
inductive Cn (K0 : List Int) : Nat → List Int → List Value → List Value → List (Addr × Obj) → Prop
  | zero (t0 : Tok) (own : List (Addr × Obj)) : Cn K0 0 K0 [.bytes (bz K0) t0] [] own
  | one (t0 t1 : Tok) (K1 : List Int) (T0 : Addr) (own : List (Addr × Obj)) (l0 : Lv 97 K0 K1 T0 own) : Cn K0 1 K1 [.bytes (bz K0) t0, .bytes (bz K1) t1] [.ref T0] own
  | two (t0 t1 t2 : Tok) (K1 K2 : List Int) (T0 T1 : Addr) (own : List (Addr × Obj)) (l0 : Lv 97 K0 K1 T0 own) (l1 : Lv 98 K1 K2 T1 own) : Cn K0 2 K2 [.bytes (bz K0) t0, .bytes (bz K1) t1, .bytes (bz K2) t2] [.ref T0, .ref T1] own
  | three (t0 t1 t2 t3 : Tok) (K1 K2 K3 : List Int) (T0 T1 T2 : Addr) (own : List (Addr × Obj)) (l0 : Lv 97 K0 K1 T0 own) (l1 : Lv 98 K1 K2 T1 own) (l2 : Lv 99 K2 K3 T2 own) :
    Cn K0 3 K3 [.bytes (bz K0) t0, .bytes (bz K1) t1, .bytes (bz K2) t2, .bytes (bz K3) t3] [.ref T0, .ref T1, .ref T2] own
structure J1 (f : Int) (Ca Bu : Addr) (K0 : List Int) (i : Nat) (m : Str → Option Value) (nx : List (Addr × Obj)) : Prop where
  ex : ∃ K cs n1 bs n2 ps own tf, nx = (Bu, listOf bs.toArray n2) :: (Ca, listOf cs.toArray n1) :: (89, tabObj ps) :: (72, tabObj #[]) :: own ∧ TabOk posJ ps ∧ OwnOff own [Bu, Ca, 89, 72] ∧
    m (Str.ofString "carried") = some (.ref Ca) ∧ m (Str.ofString "built") = some (.ref Bu) ∧ m (Str.ofString "first") = some (.int f tf) ∧ Cn K0 i K cs bs own
theorem kst3 {m : Str → Option Value} {ps : List (Str × Value)} (h : ∀ p ∈ ps, m p.1 = some p.2) : m = kstB m ps := by
  funext z; exact (kstB_eq h (fun _ => rfl)).symm
theorem bz_nil {K : List Int} : ((bz K).toList != (#[] : Array UInt8).toList) = decide (K ≠ []) := by
  unfold bz
  cases K with
  | nil => rfl
  | cons a r => rfl
theorem in_slash {V : List Int} : (!!(Builtin.Str.occurrences (sz V) (Str.ofString "/") 0 (sz V).length 1).isEmpty) = decide (47 ∉ V) := by
  have e : Str.ofString "/" = ⟨#[47]⟩ := by decide +kernel
  rw [e]
  show (!(!(Builtin.Str.occurrences (sz V) ⟨#[47]⟩ 0 (sz V).length 1).isEmpty)) = _
  rw [StrLaws.found_one]
  have e2 : (47 ∈ (sz V).cps.toList) ↔ 47 ∈ V := by
    unfold sz
    simp only [List.mem_map]
    constructor
    · rintro ⟨c, hc, e⟩
      have : c = 47 := by omega
      exact this ▸ hc
    · intro h; exact ⟨47, h, rfl⟩
  by_cases h : 47 ∈ V
  · simp [h, e2]
  · simp [h, e2]
section
variable {k : Int} {K : List Int}
theorem bare_of {b : Bool} (h : Oct K) (h0 : 0 ≤ k) (h2 : k < 3) (e : b = true ↔ K ≠ [] ∧ (k = 2 ∨ (K.length % 3 = 0 ∧ 47 ∉ encW k K))) : b = bareV (encW k K) := by
  have := bare_iff h h0 h2
  cases b <;> cases hb : bareV (encW k K) <;> simp_all
theorem fmod3 : (K.length : Int).fmod 3 = 0 ↔ K.length % 3 = 0 := by rw [Int.fmod_eq_emod_of_nonneg _ (by decide)]; omega
theorem bare_p1 (h : Oct K) (h0 : 0 ≤ k) (h2 : k < 3) (hne : ((bz K).toList != (#[] : Array UInt8).toList) = true) (hk : k = 2) : (k == 2) = bareV (encW k K) := by
  rw [bz_nil] at hne
  refine bare_of h h0 h2 ?_
  simp at hne
  simp [hne, hk]
theorem bare_p2 (h : Oct K) (h0 : 0 ≤ k) (h2 : k < 3) (hne : ((bz K).toList != (#[] : Array UInt8).toList) = true) (hk : k ≠ 2) (hm : (K.length : Int).fmod 3 = 0) :
    (!!(Builtin.Str.occurrences (sz (encW k K)) (Str.ofString "/") 0 (sz (encW k K)).length 1).isEmpty) = bareV (encW k K) := by
  rw [bz_nil] at hne
  rw [in_slash]
  refine bare_of h h0 h2 ?_
  simp at hne
  have := fmod3.mp hm
  simp [hne, hk, this]
theorem bare_p3 (h : Oct K) (h0 : 0 ≤ k) (h2 : k < 3) (hk : k ≠ 2) (hm : (K.length : Int).fmod 3 ≠ 0) : ((K.length : Int).fmod 3 == 0) = bareV (encW k K) := by
  refine bare_of h h0 h2 ?_
  have : ¬ K.length % 3 = 0 := fun e => hm (fmod3.mpr e)
  simp [hk, this, hm]
theorem bare_p4 (h : Oct K) (h0 : 0 ≤ k) (h2 : k < 3) (hne : ((bz K).toList != (#[] : Array UInt8).toList) = false) : ((bz K).toList != (#[] : Array UInt8).toList) = bareV (encW k K) := by
  rw [bz_nil] at hne ⊢
  refine bare_of h h0 h2 ?_
  simp at hne
  simp [hne]
end
end

section
theorem stg_due {sh k : Int} {v : List Int} (h0 : 0 ≤ sh) (h2 : sh < 3) (hk : Ks k) (hv : Vl v) (hz : v.length ≤ 3000) (pa : Addr) : Stg sh k v (wrV v) (dueL sh k v) [] [] [] pa := by
  obtain rfl | rfl | rfl : sh = 0 ∨ sh = 1 ∨ sh = 2 := by omega
  · have e : dueL 0 k v = k :: 61 :: wrV v := rfl
    have hl := wrV_len v
    have ha := dueL_as (sh := 0) hk hv
    rw [e] at ha ⊢
    exact .last _ 0 _ _ _ _ (.zero hk (by decide +kernel) ha (by simp only [List.length_cons]; omega)) .zero
  · have e : dueL 1 k v = 119 :: 59 :: 32 :: k :: 61 :: wrV v := rfl
    rw [e]
    exact .start 59 pa (.inl ⟨rfl, rfl⟩)
  · have e : dueL 2 k v = 119 :: 44 :: 32 :: k :: 61 :: wrV v := rfl
    rw [e]
    exact .start 44 pa (.inr ⟨rfl, rfl⟩)
theorem wrV_or (v : List Int) : wrV v = v ∨ wrV v = 34 :: (v ++ [34]) := by unfold wrV; split; (· exact .inl rfl); exact .inr rfl
theorem s_splitL (w : World) (H : Addr) (nH : Nat) (tH : Tok) {sh k : Int} {v : List Int} (h0 : 0 ≤ sh) (h2 : sh < 3) (hk : Ks k) (hv : Vl v) (hz : v.length ≤ 3000) (ps : Array Value) (hps : TabOk posS ps) (hH : @LT.lt Nat _ 72 H) :
    SpecX w 77 2 30 [.ref H] [] [(H, listOf #[.str (sz (dueL sh k v)) tH] nH), (72, tabObj ps)]
      (fun h v' h' => (∃ ps', TabOk posS ps' ∧ Heap.ExtBut 72 h h' ∧ h'.get? 72 = some (tabObj ps')) ∧ ∃ news, Lists (sz [k]) (sz v) sh v' news ∧ ∀ q ∈ news, h'.get? q.1 = some q.2 ∧ h.get? q.1 = none) :=
  s_split w H nH tH sh k v (wrV v) (dueL sh k v) hk hv (wrV_or v) (by have := dueL_len sh k v; omega) (by have := wrV_len v; omega) (stg_due h0 h2 hk hv hz) ps hps hH
end

theorem s_signsK (w : World) (K : List Int) (hK : Oct K) (t u : Tok) (k : Int) (h0 : 0 ≤ k) (h2 : k < 3) (hb : K.length ≤ 1000) : Spec w 239 1 10 [.bytes (bz K) t, .int k u] [] (fun v _ => ∃ t', v = .str (sz (encW k K)) t') := by
  have := s_signs w (bz K) t u k h0 h2 (by rw [size_bz]; omega)
  rwa [bInts_bz hK] at this
theorem s_writeK (w : World) (K : List Int) (hK : Oct K) (t u : Tok) (k : Int) (h0 : 0 ≤ k) (h2 : k < 3) (hb : K.length ≤ 1000) : Spec w 246 5 30 [.bytes (bz K) t, .int k u] [] (fun v _ => ∃ t', v = .bytes (bz (encW k K)) t') := by
  have := s_write w (bz K) t u k h0 h2 (by rw [size_bz]; omega)
  rwa [bInts_bz hK] at this
theorem encodeK {prog : Program} {w : World} {A : Around} {E Q : Value → Shared → Prop} {s : Shared} {V : List Int} {t u : Tok} (hV : As V) (hz : V.length ≤ 100000) (h : ∀ t' k, Q (.bytes (bz V) t') { s with toks := k }) :
    wpAny (model prog w) A (call (.builtin "str.encode") [.str (sz V) t, .str (Str.ofString "ascii") u]) Q E s :=
  call_encode (asc_sz hV) (by rw [csize_sz]; omega) fun t' k => by rw [asB_sz]; exact h t' k
theorem bne_absurd {α : Type} [BEq α] [LawfulBEq α] {a : α} {P : Prop} (h : (a != a) = true) : P := by simp at h
structure CutV (S : Shared) (b : Heap) (L : Addr) (m : Str → Option Value) (news : List (Addr × Obj)) (name : Str) (v : Value) (fl : Flow) (s' : Shared) : Prop where
  ex : fl = .next ∧ ∃ h' tk, s' = { S with heap := h', toks := tk } ∧ Fr b L h' (fun y => if y = name then some v else m y) ∧ News b L h' news
theorem cut_val {M : Model} {A : Around} {E : Value → Shared → Prop} {s : Shared} {b : Heap} {L : Addr} {m : Str → Option Value} {news : List (Addr × Obj)} {t : Sem Flow} {P : Flow → Shared → Prop} (name : Str) (v : Value) (F : Fr b L s.heap m) (N : News b L s.heap news)
    (h1 : wpAny M A t (CutV s b L m news name v) E s) (h2 : ∀ h' tk, Fr b L h' (fun y => if y = name then some v else m y) → News b L h' news → P .next { s with heap := h', toks := tk }) : wpAny M A t P E s :=
  wpAny_mono h1 (fun fl s' c => by obtain ⟨rfl, h', tk, rfl, F', N'⟩ := c.ex; exact h2 h' tk F' N') fun _ _ x => x
/-- what stands ahead of the pair -/
noncomputable def preL (sh : Int) : List Int := if sh = 0 then [] else if sh = 1 then [119, 59, 32] else [119, 44, 32]
theorem preL_len (sh : Int) : (preL sh).length ≤ 3 := by unfold preL; split; (· simp); split <;> simp
theorem pick3 {prog : Program} {w : World} {A : Around} {E Q : Value → Shared → Prop} {s : Shared} {value slice : Expr} {l : Addr} {t1 t2 t3 u : Tok} {k : Int} (hl : s.heap.IsList l #[.str (Str.ofString "") t1, .str (Str.ofString "w; ") t2, .str (Str.ofString "w, ") t3]) (h0 : 0 ≤ k) (h1 : k < 3) (h : ∀ t', Q (.str (sz (preL k)) t') s)
    (hs : subscripted slice false (.ref l) (.int k u) = operate [.ref l, .int k u] (getItem (.ref l) (.int k u)) := by with_unfolding_all rfl) :
    wpAny (model prog w) A (subscriptTail value slice (.ref l) (.int k u)) Q E s := by
  have e0 : sz (preL 0) = Str.ofString "" := by decide +kernel
  have e1 : sz (preL 1) = Str.ofString "w; " := by decide +kernel
  have e2 : sz (preL 2) = Str.ofString "w, " := by decide +kernel
  obtain rfl | rfl | rfl : k = 0 ∨ k = 1 ∨ k = 2 := by omega
  · exact item_litK (vs := [.str (Str.ofString "") t1, .str (Str.ofString "w; ") t2, .str (Str.ofString "w, ") t3]) hl (by decide) (by decide) rfl (by have := h t1; rwa [e0] at this) hs
  · exact item_litK (vs := [.str (Str.ofString "") t1, .str (Str.ofString "w; ") t2, .str (Str.ofString "w, ") t3]) hl (by decide) (by decide) rfl (by have := h t2; rwa [e1] at this) hs
  · exact item_litK (vs := [.str (Str.ofString "") t1, .str (Str.ofString "w; ") t2, .str (Str.ofString "w, ") t3]) hl (by decide) (by decide) rfl (by have := h t3; rwa [e2] at this) hs
structure CutS (S : Shared) (b : Heap) (L : Addr) (m : Str → Option Value) (news : List (Addr × Obj)) (name : Str) (x : Str) (fl : Flow) (s' : Shared) : Prop where
  ex : fl = .next ∧ ∃ h' tk t, s' = { S with heap := h', toks := tk } ∧ Fr b L h' (fun y => if y = name then some (.str x t) else m y) ∧ News b L h' news
theorem cut_str {M : Model} {A : Around} {E : Value → Shared → Prop} {s : Shared} {b : Heap} {L : Addr} {m : Str → Option Value} {news : List (Addr × Obj)} {t : Sem Flow} {P : Flow → Shared → Prop} (name : Str) (x : Str) (F : Fr b L s.heap m) (N : News b L s.heap news)
    (h1 : wpAny M A t (CutS s b L m news name x) E s) (h2 : ∀ h' tk t', Fr b L h' (fun y => if y = name then some (.str x t') else m y) → News b L h' news → P .next { s with heap := h', toks := tk }) : wpAny M A t P E s :=
  wpAny_mono h1 (fun fl s' c => by obtain ⟨rfl, h', tk, t', rfl, F', N'⟩ := c.ex; exact h2 h' tk t' F' N') fun _ _ x => x
theorem due_1 {sh k : Int} {V : List Int} (hb : bareV V = true) : sz (preL sh) ++ sz [k] ++ Str.ofString "=" ++ sz V = sz (dueL sh k V) := by
  rw [sz_eq, sz_app, sz_app, sz_app]; unfold dueL preL wrV; rw [if_pos hb]; simp only [List.append_assoc]; rfl
theorem due_2 {sh k : Int} {V : List Int} (hb : ¬ bareV V = true) : sz (preL sh) ++ sz [k] ++ Str.ofString "=" ++ (Str.ofString "\"" ++ sz V ++ Str.ofString "\"") = sz (dueL sh k V) := by
  rw [sz_eq, sz_quo, sz_app, sz_app, sz_app, sz_app, sz_app]; unfold dueL preL wrV; rw [if_neg hb]; simp only [List.append_assoc]; rfl
theorem due_2f {sh k : Int} {V : List Int} (hb : bareV V = false) : sz (preL sh) ++ sz [k] ++ Str.ofString "=" ++ (Str.ofString "\"" ++ sz V ++ Str.ofString "\"") = sz (dueL sh k V) := due_2 (by rw [hb]; decide)
theorem News.tl {h₀ h : Heap} {L : Addr} {p : Addr × Obj} {news : List (Addr × Obj)} (N : News h₀ L h (p :: news)) : News h₀ L h news := fun q hq => N q (.tail _ hq)
theorem pack {b h : Heap} {L TT I Bu Ca : Addr} {to it bo co p89 p72 : Obj} {nw own : List (Addr × Obj)} (N : News b L h (nw ++ (TT, to) :: (I, it) :: (Bu, bo) :: (Ca, co) :: (89, p89) :: (72, p72) :: own))
    (hoff : OwnOff own [Bu, Ca, 89, 72]) (hI : ∀ p ∈ (Bu, bo) :: (Ca, co) :: (89, p89) :: (72, p72) :: own, p.1 ≠ I) (b1 : @LT.lt Nat _ I TT) (b2 : @LT.lt Nat _ Bu TT) (b3 : @LT.lt Nat _ Ca TT) (b4 : @LT.lt Nat _ 89 TT) (b5 : @LT.lt Nat _ 72 TT) (hnw : ∀ q ∈ nw, @LT.lt Nat _ TT q.1) :
    ∃ own2, News b L h ((I, it) :: (Bu, bo) :: (Ca, co) :: (89, p89) :: (72, p72) :: own2) ∧ OwnOff own2 [I, Bu, Ca, 89, 72] ∧ (∀ q ∈ nw ++ [(TT, to)], q ∈ own2) ∧ (∀ q ∈ own, q ∈ own2) ∧ ∀ q ∈ nw ++ [(TT, to)], @LT.lt Nat _ 89 q.1 := by
  refine ⟨(TT, to) :: (nw ++ own), fun q hq => N q ?_, fun q hq c hc => ?_, fun q hq => ?_, fun q hq => .tail _ (List.mem_append_right _ hq), fun q hq => ?_⟩
  · simp only [List.mem_cons, List.mem_append] at hq ⊢
    rcases hq with h | h | h | h | h | h | h | h <;> simp [h]
  · simp only [List.mem_cons, List.not_mem_nil, or_false] at hc
    rcases List.mem_cons.mp hq with rfl | hq
    · rcases hc with rfl | rfl | rfl | rfl | rfl <;> exact Nat.ne_of_gt (by assumption)
    · rcases List.mem_append.mp hq with hq | hq
      · have := hnw q hq
        rcases hc with rfl | rfl | rfl | rfl | rfl <;> exact Nat.ne_of_gt (Nat.lt_trans (by assumption) this)
      · rcases hc with rfl | hc
        · exact hI q (.tail _ (.tail _ (.tail _ (.tail _ hq))))
        · exact hoff q hq c (by simp only [List.mem_cons, List.not_mem_nil, or_false]; exact hc)
  · rcases List.mem_append.mp hq with hq | hq
    · exact .tail _ (List.mem_append_left _ hq)
    · rcases List.mem_singleton.mp hq with rfl; exact .head _
  · rcases List.mem_append.mp hq with hq | hq
    · exact Nat.lt_trans b4 (hnw q hq)
    · rcases List.mem_singleton.mp hq with rfl; exact b4
theorem end_J1 {b h' : Heap} {L T2 I Bu Ca : Addr} {m' : Str → Option Value} {S : Shared} {Q : Flow → Shared → Prop} {it to2 : Obj} {bs cs : List Value} {n1 n2 i : Nat} {ps : Array Value} {own2 : List (Addr × Obj)} {f0 : Int} {K0 K : List Int} {tk : Nat}
    (F : Fr b L h' m') (N : News b L h' ((T2, to2) :: (I, it) :: (Bu, listOf bs.toArray n2) :: (Ca, listOf cs.toArray n1) :: (89, tabObj ps) :: (72, tabObj #[]) :: own2)) (hoff2 : OwnOff own2 [I, Bu, Ca, 89, 72])
    (i1 : @Ne Nat I Bu) (i2 : @Ne Nat I Ca) (i3 : @Ne Nat I 89) (i4 : @Ne Nat I 72) (b1 : @LT.lt Nat _ I T2) (b2 : @LT.lt Nat _ Bu T2) (b3 : @LT.lt Nat _ Ca T2) (b4 : @LT.lt Nat _ 89 T2) (b5 : @LT.lt Nat _ 72 T2) (hps : TabOk posJ ps)
    (hm1 : m' (Str.ofString "carried") = some (.ref Ca)) (hm2 : m' (Str.ofString "built") = some (.ref Bu)) (hm3 : ∃ tf, m' (Str.ofString "first") = some (.int f0 tf)) (hC : Cn K0 i K cs bs ((T2, to2) :: own2)) :
    PostJ b L [(I, it)] (J1 f0 Ca Bu K0 i) S Q .next { S with heap := h', toks := tk } := by
  obtain ⟨tf, hm3⟩ := hm3
  refine ⟨h', tk, m', (Bu, listOf bs.toArray n2) :: (Ca, listOf cs.toArray n1) :: (89, tabObj ps) :: (72, tabObj #[]) :: ((T2, to2) :: own2), rfl, F, fun q hq => N q ?_, fun q hq c hc => ?_, ⟨⟨K, cs, n1, bs, n2, ps, _, tf, rfl, hps, fun q hq c hc => ?_, hm1, hm2, hm3, hC⟩⟩⟩
  · simp only [List.mem_cons, List.cons_append, List.nil_append] at hq ⊢
    rcases hq with h | h | h | h | h | h | h <;> simp [h]
  · rcases List.mem_singleton.mp hc with rfl
    simp only [List.mem_cons] at hq
    rcases hq with rfl | rfl | rfl | rfl | rfl | hq
    · exact i1.symm
    · exact i2.symm
    · exact i3.symm
    · exact i4.symm
    · exact Nat.ne_of_gt b1
    · exact hoff2 q hq I (.head _)
  · simp only [List.mem_cons, List.not_mem_nil, or_false] at hc
    rcases List.mem_cons.mp hq with rfl | hq
    · rcases hc with rfl | rfl | rfl | rfl <;> exact Nat.ne_of_gt (by assumption)
    · exact hoff2 q hq c (by simp only [List.mem_cons, List.not_mem_nil, or_false]; exact .inr hc)
theorem key_a : Str.ofString "a" = sz [97] := by decide +kernel
theorem key_b : Str.ofString "b" = sz [98] := by decide +kernel
theorem key_c : Str.ofString "c" = sz [99] := by decide +kernel
theorem news_add {h₀ h h' : Heap} {L : Addr} {m : Str → Option Value} {news nw : List (Addr × Obj)} (F : Fr h₀ L h m) (N : News h₀ L h' news) (hs : h.StaysIn h') (hn : ∀ q ∈ nw, h'.get? q.1 = some q.2 ∧ h.get? q.1 = none) : News h₀ L h' (nw ++ news) := by
  intro q hq
  rcases List.mem_append.mp hq with hq | hq
  · exact News.onNew F N (hn q hq).2 (hn q hq).1 hs q (.head _)
  · exact N q hq
theorem Fr.onExt {h₀ h h' : Heap} {L P : Addr} {m : Str → Option Value} (F : Fr h₀ L h m) (hx : Heap.ExtBut P h h') (hP : h₀.get? P = none) (hL : L ≠ P) : Fr h₀ L h' m :=
  ⟨F.ns.extBut hx hL, fun b o e => hx b o (fun q => by rw [q, hP] at e; cases e) (F.keep b o e), F.above⟩
theorem news_ext {h₀ h h' : Heap} {L P : Addr} {o o' : Obj} {news : List (Addr × Obj)} {g : Obj → List (Addr × Obj)} (N : News h₀ L h news) (U : UpdF P o news g) (hx : Heap.ExtBut P h h') (hn : h'.get? P = some o') : News h₀ L h' (g o') := by
  obtain ⟨pre, post, rfl, hg, a, b⟩ := U.split
  rw [hg]
  intro q hq
  rcases List.mem_append.mp hq with hq | hq
  · have n := N q (List.mem_append_left _ hq)
    exact ⟨hx _ _ (a q hq) n.1, n.2⟩
  · rcases List.mem_cons.mp hq with rfl | hq
    · exact ⟨hn, (N (P, o) (List.mem_append_right _ (.head _))).2⟩
    · have n := N q (List.mem_append_right _ (.tail _ hq))
      exact ⟨hx _ _ (b q hq) n.1, n.2⟩
theorem room_law {env : Env} {d u : Nat} (h1 : d ≤ 100) (h2 : u ≤ 100) : Room (callerA.deeper env) d u :=
  ⟨rfl, by have e : callerA.depth + 1 + 100 < recursionLimit := by decide
           show callerA.depth + 1 + d < recursionLimit; omega, by have e : callerA.units + 3 + 100 < cLine := by decide
                                                                  show callerA.units + 3 + u < cLine; omega⟩
theorem decodeK {prog : Program} {w : World} {A : Around} {E Q : Value → Shared → Prop} {s : Shared} {V : List Int} {t u : Tok} (hV : As V) (hne : V ≠ []) (hz : V.length ≤ 100000) (h : ∀ t' k, Q (.str (sz V) t') { s with toks := k }) :
    wpAny (model prog w) A (call (.builtin "bytes.decode") [.bytes (bz V) t, .str (Str.ofString "ascii") u]) Q E s := by
  refine call_decode (fun e => hne ?_) (fun c hc => ?_) (by rw [size_bz]; omega) fun t' k => by rw [asS_bz hV.oct]; exact h t' k
  · have := congrArg Array.size e
    rw [size_bz] at this
    exact List.eq_nil_of_length_eq_zero (by simpa using this)
  · have hc2 : c ∈ V.map fun n => n.toNat.toUInt8 := by simpa [bz] using hc
    obtain ⟨n, hn, rfl⟩ := List.mem_map.mp hc2
    have := hV n hn
    show (n.toNat % 256) < 128
    omega
theorem dueL_ne {sh k : Int} {V : List Int} : dueL sh k V ≠ [] := by unfold dueL; simp
theorem Lv.ne {key : Int} {K K' : List Int} {T : Addr} {own : List (Addr × Obj)} (l : Lv key K K' T own) : K' ≠ [] := by
  obtain ⟨wy, sh, u, Rv, nw, a, b, c, d, e, f, g, rfl⟩ := l.ex
  exact dueL_ne
theorem words_w_law2_1 : True := by
  k_with "call builtin:bytes.decode" => ((with_reducible show wpAny _ _ (call _ [Value.bytes (bz _) _, _]) _ _ _); (refine decodeK (by with_reducible assumption) (by with_reducible assumption) (by with_reducible assumption) ?_); intro _ _)
  k_with "c_room" => exact room_law (by decide) (by decide)
  k_with "c_first" => repeat' (first | ((fail_if_success (with_reducible show wpAny _ _ (exec (Stmt.Assign _ _ _) _) _ _ _)); first | (k_unfold; (try dsimp only)) | (k_end; wrow_close) | walk1 | (dsimp only; walk1) | (leave1; try dsimp only)) | fail "no step")
  k_with "c_for" => repeat' (first | ((fail_if_success (with_reducible show wpAny _ _ (exec (Stmt.For _ _ _ _ _) _) _ _ _)); (fail_if_success (with_reducible show wpAny _ _ (pyIter (Value.ref _)) _ _ _)); first | (k_unfold; (try dsimp only)) | (k_end; wrow_close) | walk1 | (dsimp only; walk1) | (leave1; try dsimp only)) | fail "no step")
  k_with "c_octets" => repeat' (first | ((fail_if_success (with_reducible show wpAny _ _ (exec (Stmt.Assign [Expr.Name (Str.ofString "octets") _] _ _) _) _ _ _)); first | (k_unfold; (try dsimp only)) | (k_end; wrow_close) | walk1 | (dsimp only; walk1) | (leave1; try dsimp only)) | fail "no step")
  k_with "c_bare" => repeat' (first | ((fail_if_success (with_reducible show wpAny _ _ (exec (Stmt.Assign [Expr.Name (Str.ofString "bare") _] _ _) _) _ _ _)); first | (k_unfold; (try dsimp only)) | (k_end; wrow_close) | walk1 | (dsimp only; walk1) | (leave1; try dsimp only)) | fail "no step")
  k_with "c_due" => repeat' (first | ((fail_if_success (with_reducible show wpAny _ _ (exec (Stmt.Assign [Expr.Name (Str.ofString "due") _] _ _) _) _ _ _)); first | (k_unfold; (try dsimp only)) | (k_end; wrow_close) | walk1 | (dsimp only; walk1) | (leave1; try dsimp only)) | fail "no step")
  k_with "c_lists" => repeat' (first | ((fail_if_success (with_reducible show wpAny _ _ (exec (Stmt.Assign [Expr.Name (Str.ofString "lists") _] _ _) _) _ _ _)); first | (k_unfold; (try dsimp only)) | (k_end; wrow_close) | walk1 | (dsimp only; walk1) | (leave1; try dsimp only)) | fail "no step")
  k_with "call ref" => ((with_reducible show wpAny _ _ (call (Value.ref 239) [Value.bytes _ _, Value.int _ _] _) _ _ _); (refine use_specV (s_signsK _ _ (by with_reducible assumption) _ _ _ (by with_reducible assumption) (by with_reducible assumption) (by with_reducible assumption)) (by walk_at "c_room") (by k_asm) (by k_asm) (by k_asm) (by k_asm) ?_); intro _ _ _ _ _)
  k_with "call ref" => ((with_reducible show wpAny _ _ (call (Value.ref 246) [Value.bytes _ _, Value.int _ _] _) _ _ _); (refine use_specV (s_writeK _ _ (by with_reducible assumption) _ _ _ (by with_reducible assumption) (by with_reducible assumption) (by with_reducible assumption)) (by walk_at "c_room") (by k_asm) (by k_asm) (by k_asm) (by k_asm) ?_); intro _ _ _ _ _)
  k_with "call builtin:str.encode" => ((with_reducible show wpAny _ _ (call _ [Value.str (sz _) _, _]) _ _ _); (refine encodeK (by with_reducible assumption) (by with_reducible assumption) ?_); intro _ _)
  k_with "subscriptTail" => ((with_reducible show wpAny _ _ (subscriptTail (Expr.List _ _) _ (Value.ref _) (Value.int _ _)) _ _ _); (refine pick3 (News.isList (by k_asm) (by k_mem)) (by with_reducible assumption) (by with_reducible assumption) ?_); intro _)
  k_with "c_260" => repeat' (first | ((fail_if_success (with_reducible show wpAny _ _ (call (Value.ref 260) _ _) _ _ _)); first | (k_unfold; (try dsimp only)) | (k_end; wrow_close) | walk1 | (dsimp only; walk1) | (leave1; try dsimp only)) | fail "no step")
  k_with "c_94" => repeat' (first | ((fail_if_success (with_reducible show wpAny _ _ (call (Value.ref 94) _ _) _ _ _)); first | (k_unfold; (try dsimp only)) | (k_end; wrow_close) | walk1 | (dsimp only; walk1) | (leave1; try dsimp only)) | fail "no step")
  k_with "c_77" => repeat' (first | ((fail_if_success (with_reducible show wpAny _ _ (call (Value.ref 77) _ _) _ _ _)); first | (k_unfold; (try dsimp only)) | (k_end; wrow_close) | walk1 | (dsimp only; walk1) | (leave1; try dsimp only)) | fail "no step")
  k_with "c_253" => repeat' (first | ((fail_if_success (with_reducible show wpAny _ _ (call (Value.ref 253) _ _) _ _ _)); first | (k_unfold; (try dsimp only)) | (k_end; wrow_close) | walk1 | (dsimp only; walk1) | (leave1; try dsimp only)) | fail "no step")
  trivial

section
variable {key val : Str} {sh : Int} {v : Value} {nw : List (Addr × Obj)}
theorem Lists.isRef (l : Lists key val sh v nw) : ∃ R, v = .ref R := by cases l <;> exact ⟨_, rfl⟩
noncomputable def dataL (sh : Int) (key val : Str) : PyData :=
  if sh = 0 then .list [.list [.tuple [.str key, .str val]]]
  else if sh = 1 then .list [.list [.tuple [.str (sz [119]), .none], .tuple [.str key, .str val]]]
  else .list [.list [.tuple [.str (sz [119]), .none]], .list [.tuple [.str key, .str val]]]
theorem Lists.reads {h : Heap} (l : Lists key val sh v nw) (g : ∀ q ∈ nw, h.get? q.1 = some q.2) : ∃ as, Reads h v (dataL sh key val) as := by
  cases l with
  | zero R P T n1 n2 t1 t2 =>
    exact ⟨_, Reads.list (g _ (.head _)) rfl rfl (.cons (Reads.list (g _ (.tail _ (.head _))) rfl rfl (.cons (Reads.tuple (g _ (.tail _ (.tail _ (.head _)))) rfl rfl (.cons (.str _ _) (.cons (.str _ _) .nil))) .nil)) .nil)⟩
  | one R P U T n1 n2 t1 t2 tu =>
    exact ⟨_, Reads.list (g _ (.head _)) rfl rfl (.cons (Reads.list (g _ (.tail _ (.head _))) rfl rfl
      (.cons (Reads.tuple (g _ (.tail _ (.tail _ (.head _)))) rfl rfl (.cons (.str _ _) (.cons .none .nil)))
      (.cons (Reads.tuple (g _ (.tail _ (.tail _ (.tail _ (.head _))))) rfl rfl (.cons (.str _ _) (.cons (.str _ _) .nil))) .nil))) .nil)⟩
  | two R P O U T n1 n2 n3 t1 t2 tu =>
    exact ⟨_, Reads.list (g _ (.head _)) rfl rfl
      (.cons (Reads.list (g _ (.tail _ (.head _))) rfl rfl (.cons (Reads.tuple (g _ (.tail _ (.tail _ (.tail _ (.head _))))) rfl rfl (.cons (.str _ _) (.cons .none .nil))) .nil))
      (.cons (Reads.list (g _ (.tail _ (.tail _ (.head _)))) rfl rfl (.cons (Reads.tuple (g _ (.tail _ (.tail _ (.tail _ (.tail _ (.head _)))))) rfl rfl (.cons (.str _ _) (.cons (.str _ _) .nil))) .nil)) .nil))⟩
end
theorem strOk_sz {V : List Int} (h : As V) : PyData.strOk (sz V) = true := by
  unfold PyData.strOk sz
  rw [Array.all_eq_true_iff_forall_mem]
  intro x hx
  have hx2 : x ∈ V.map Int.toNat := by simpa using hx
  obtain ⟨n, hn, rfl⟩ := List.mem_map.mp hx2
  have := h n hn
  exact decide_eq_true (by omega)
theorem shaped_L {sh : Int} {key val : Str} (hk : PyData.strOk key = true) (hv : PyData.strOk val = true) : PySem.SeqAt.shaped (dataL sh key val) = true := by
  have hw : PyData.strOk (sz [119]) = true := by decide +kernel
  unfold dataL
  split
  · simp [PySem.SeqAt.shaped, PyData.canLay0, PyData.canLayAll0, PyData.depth, PyData.depthAll, hk, hv]
  · split <;> simp [PySem.SeqAt.shaped, PyData.canLay0, PyData.canLayAll0, PyData.depth, PyData.depthAll, hk, hv, hw]
theorem noMix_L {sh : Int} {key val : Str} : SeqAt.noMix (dataL sh key val) (dataL sh key val) = true := by
  unfold dataL
  split
  · simp [SeqAt.noMix, SeqAt.noMixAll]
  · split <;> simp [SeqAt.noMix, SeqAt.noMixAll]
theorem same_L {sh : Int} {key val : Str} : PySem.Spec.same (dataL sh key val) (dataL sh key val) = true := by
  unfold dataL
  split
  · simp [PySem.Spec.same, PySem.Spec.sameAll]
  · split <;> simp [PySem.Spec.same, PySem.Spec.sameAll]
theorem ne_listsK {prog : Program} {w : World} {A : Around} {E Q : Value → Shared → Prop} {s : Shared} {b : Heap} {L : Addr} {news n1 n2 : List (Addr × Obj)} {v1 v2 : Value} {sh k : Int} {V : List Int} (N : News b L s.heap news)
    (l1 : Lists (sz [k]) (sz V) sh v1 n1) (l2 : Lists (sz [k]) (sz V) sh v2 n2) (m1 : ∀ q ∈ n1, q ∈ news) (m2 : ∀ q ∈ n2, q ∈ news) (hk : Ks k) (hV : As V) (hu : A.units + 64 < cLine) (h : Q (.bool false) s) :
    wpAny (model prog w) A (compareOp .NotEq v1 v2) Q E s := by
  obtain ⟨a1, r1⟩ := l1.reads fun q hq => (N q (m1 q hq)).1
  obtain ⟨a2, r2⟩ := l2.reads fun q hq => (N q (m2 q hq)).1
  have hk' : As [k] := fun n hn => by rcases List.mem_singleton.mp hn with rfl; unfold Ks at hk; omega
  have hs := shaped_L (sh := sh) (strOk_sz hk') (strOk_sz hV)
  refine ne_dataH_same r1 r2 hs hs hu noMix_L ?_
  rw [same_L]
  exact h
/-- one turn of the second loop: its level, its key, what was carried -/
structure Rw (own : List (Addr × Obj)) (X : Nat → List Int) (bs cs : List Value) (i : Nat) (k : Int) : Prop where
  ex : ∃ (key : Int) (T : Addr) (Kl : List Int) (tl : Tok), 0 ≤ k ∧ k < 3 ∧ (i : Int) + k = 2 ∧ (0 < k → X (i + 1) = Kl ∧ Kl ≠ [] ∧ As Kl) ∧ Lv key Kl (X i) T own ∧ Ks key ∧ Oct Kl ∧ Kl.length ≤ 1000 ∧ bs[k.toNat]? = some (.ref T) ∧ cs[k.toNat]? = some (.bytes (bz Kl) tl)
noncomputable def chX (K1 K2 K3 : List Int) : Nat → List Int
  | 0 => K3
  | 1 => K2
  | _ => K1
theorem rw_of {K0 K1 K2 K3 : List Int} {T0 T1 T2 : Addr} {t0 t1 t2 t3 : Tok} {own : List (Addr × Obj)} {i : Nat} {k : Int} (l0 : Lv 97 K0 K1 T0 own) (l1 : Lv 98 K1 K2 T1 own) (l2 : Lv 99 K2 K3 T2 own) (h0 : Oct K0) (hl : K0.length ≤ 8)
    (hns : [(2 : Int), 1, 0][i]? = some k) : Rw own (chX K1 K2 K3) [.ref T0, .ref T1, .ref T2] [.bytes (bz K0) t0, .bytes (bz K1) t1, .bytes (bz K2) t2, .bytes (bz K3) t3] i k := by
  have k97 : Ks 97 := by unfold Ks; omega
  have k98 : Ks 98 := by unfold Ks; omega
  have k99 : Ks 99 := by unfold Ks; omega
  have a1 := l0.as k97 h0
  have n1 := l0.len h0
  have a2 := l1.as k98 a1.oct
  have n2 := l1.len a1.oct
  match i, hns with
  | 0, hns => cases hns; exact ⟨99, T2, K2, t2, by decide, by decide, by decide, fun _ => ⟨rfl, l1.ne, a2⟩, l2, k99, a2.oct, by omega, rfl, rfl⟩
  | 1, hns => cases hns; exact ⟨98, T1, K1, t1, by decide, by decide, by decide, fun _ => ⟨rfl, l0.ne, a1⟩, l1, k98, a1.oct, by omega, rfl, rfl⟩
  | 2, hns => cases hns; exact ⟨97, T0, K0, t0, by decide, by decide, by decide, fun h => absurd h (by decide), l0, k97, h0, by omega, rfl, rfl⟩
  | n + 3, hns => simp at hns
structure J2 (Ca Bu : Addr) (oB oC o89 : Obj) (own : List (Addr × Obj)) (X : Nat → List Int) (i : Nat) (m : Str → Option Value) (nx : List (Addr × Obj)) : Prop where
  ex : ∃ ps tt, nx = (Bu, oB) :: (Ca, oC) :: (89, o89) :: (72, tabObj ps) :: own ∧ TabOk posS ps ∧ m (Str.ofString "carried") = some (.ref Ca) ∧ m (Str.ofString "built") = some (.ref Bu) ∧ (i < 3 → m (Str.ofString "text") = some (.str (sz (X i)) tt))
theorem News.more {b h : Heap} {L : Addr} {news : List (Addr × Obj)} {q : Addr × Obj} (N : News b L h news) (hq : q ∈ news) : News b L h (q :: news) := fun p hp => by
  rcases List.mem_cons.mp hp with rfl | hp
  · exact N _ hq
  · exact N _ hp
/-- new objects of a call that may change object P -/
theorem news_addExt {h₀ h h' : Heap} {L : Addr} {m : Str → Option Value} {nw : List (Addr × Obj)} (F : Fr h₀ L h m) (hn : ∀ q ∈ nw, h'.get? q.1 = some q.2 ∧ h.get? q.1 = none) : News h₀ L h' nw := fun q hq => by
  obtain ⟨a, b⟩ := hn q hq
  refine ⟨a, fun e => ?_, ?_⟩
  · obtain ⟨oL, _, _, hL, _⟩ := F.ns
    rw [e, hL] at b; cases b
  · cases hg : h₀.get? q.1 with
    | none => rfl
    | some o => rw [F.keep _ _ hg] at b; cases b
theorem end_J2 {b h' : Heap} {L I l Bu Ca : Addr} {m' : Str → Option Value} {S : Shared} {Q : Flow → Shared → Prop} {it ol oB oC o89 : Obj} {i : Nat} {ps : Array Value} {own news : List (Addr × Obj)} {X : Nat → List Int} {tk : Nat}
    (F : Fr b L h' m') (N : News b L h' news) (hN : ∀ q ∈ (I, it) :: (l, ol) :: (Bu, oB) :: (Ca, oC) :: (89, o89) :: (72, tabObj ps) :: own, q ∈ news)
    (hI : ∀ q ∈ (Bu, oB) :: (Ca, oC) :: (89, o89) :: (72, tabObj ps) :: own, q.1 ≠ I) (hl : ∀ q ∈ (Bu, oB) :: (Ca, oC) :: (89, o89) :: (72, tabObj ps) :: own, q.1 ≠ l) (hps : TabOk posS ps)
    (hm1 : m' (Str.ofString "carried") = some (.ref Ca)) (hm2 : m' (Str.ofString "built") = some (.ref Bu)) (hm3 : ∃ tt, i < 3 → m' (Str.ofString "text") = some (.str (sz (X i)) tt)) :
    PostJ b L [(I, it), (l, ol)] (J2 Ca Bu oB oC o89 own X i) S Q .next { S with heap := h', toks := tk } := by
  obtain ⟨tt, hm3⟩ := hm3
  refine ⟨h', tk, m', (Bu, oB) :: (Ca, oC) :: (89, o89) :: (72, tabObj ps) :: own, rfl, F, fun q hq => N q (hN q hq), fun q hq c hc => ?_, ⟨⟨ps, tt, rfl, hps, hm1, hm2, hm3⟩⟩⟩
  rcases List.mem_cons.mp hc with rfl | hc
  · exact hI q hq
  · rcases List.mem_singleton.mp hc with rfl; exact hl q hq
theorem pack2 {b h : Heap} {L : Addr} {fr own nwT : List (Addr × Obj)} (N : News b L h (fr ++ own)) (M : News b L h nwT) : ∃ own3, News b L h (fr ++ own3) ∧ (∀ q ∈ own, q ∈ own3) ∧ ∀ q ∈ nwT, q ∈ own3 :=
  ⟨nwT ++ own, fun q hq => by
    rcases List.mem_append.mp hq with hq | hq
    · exact N q (List.mem_append_left _ hq)
    · rcases List.mem_append.mp hq with hq | hq
      · exact M q hq
      · exact N q (List.mem_append_right _ hq), fun q hq => List.mem_append_right _ hq, fun q hq => List.mem_append_left _ hq⟩
theorem News.moreL {b h : Heap} {L : Addr} {news x : List (Addr × Obj)} (N : News b L h news) (hx : ∀ q ∈ x, q ∈ news) : News b L h (x ++ news) := fun q hq => by
  rcases List.mem_append.mp hq with hq | hq
  · exact N q (hx q hq)
  · exact N q hq
theorem News.more2 {b h : Heap} {L : Addr} {news x : List (Addr × Obj)} (M : News b L h x) (N : News b L h news) : News b L h (x ++ news) := fun q hq => by
  rcases List.mem_append.mp hq with hq | hq
  · exact M q hq
  · exact N q hq
structure CutB (S : Shared) (b : Heap) (L : Addr) (m : Str → Option Value) (news : List (Addr × Obj)) (name : Str) (x : Array UInt8) (fl : Flow) (s' : Shared) : Prop where
  ex : fl = .next ∧ ∃ h' tk t, s' = { S with heap := h', toks := tk } ∧ Fr b L h' (fun y => if y = name then some (.bytes x t) else m y) ∧ News b L h' news
theorem cut_byt {M : Model} {A : Around} {E : Value → Shared → Prop} {s : Shared} {b : Heap} {L : Addr} {m : Str → Option Value} {news : List (Addr × Obj)} {t : Sem Flow} {P : Flow → Shared → Prop} (name : Str) (x : Array UInt8) (F : Fr b L s.heap m) (N : News b L s.heap news)
    (h1 : wpAny M A t (CutB s b L m news name x) E s) (h2 : ∀ h' tk t', Fr b L h' (fun y => if y = name then some (.bytes x t') else m y) → News b L h' news → P .next { s with heap := h', toks := tk }) : wpAny M A t P E s :=
  wpAny_mono h1 (fun fl s' c => by obtain ⟨rfl, h', tk, t', rfl, F', N'⟩ := c.ex; exact h2 h' tk t' F' N') fun _ _ x => x
theorem units_law {env : Env} : (callerA.deeper env).units + 64 < cLine := by
  have e : callerA.units + 3 + 100 < cLine := by decide
  show callerA.units + 3 + 64 < cLine
  omega
theorem allLt_all {d : Addr} : ∀ {l : List (Addr × Obj)}, AllLt d l → ∀ p ∈ l, @LT.lt Nat _ p.1 d
  | [], _, _, hp => absurd hp List.not_mem_nil
  | _ :: _, h, p, hp => by
    rcases List.mem_cons.mp hp with rfl | hp
    · exact h.1
    · exact allLt_all h.2 p hp
theorem tl4 {d Bu Ca : Addr} {oB oC o89 o72 : Obj} {own : List (Addr × Obj)} (h1 : @LT.lt Nat _ Bu d) (h2 : @LT.lt Nat _ Ca d) (h3 : @LT.lt Nat _ 89 d) (h4 : @LT.lt Nat _ 72 d) (h5 : AllLt d own) :
    ∀ q ∈ (Bu, oB) :: (Ca, oC) :: (89, o89) :: (72, o72) :: own, q.1 ≠ d := fun q hq => by
  simp only [List.mem_cons] at hq
  rcases hq with rfl | rfl | rfl | rfl | hq
  · exact Nat.ne_of_lt h1
  · exact Nat.ne_of_lt h2
  · exact Nat.ne_of_lt h3
  · exact Nat.ne_of_lt h4
  · exact Nat.ne_of_lt (allLt_all h5 q hq)
/-- the same addresses, whatever lies there -/
theorem ne4 {d Bu Ca : Addr} {oB oC o89 o72 o72' : Obj} {own : List (Addr × Obj)} (h : ∀ q ∈ (Bu, oB) :: (Ca, oC) :: (89, o89) :: (72, o72) :: own, q.1 ≠ d) :
    ∀ q ∈ (Bu, oB) :: (Ca, oC) :: (89, o89) :: (72, o72') :: own, q.1 ≠ d := fun q hq => by
  simp only [List.mem_cons] at hq
  rcases hq with rfl | rfl | rfl | rfl | hq
  · exact h (Bu, oB) (by simp)
  · exact h (Ca, oC) (by simp)
  · exact h (89, o89) (by simp)
  · exact h (72, o72) (by simp)
  · exact h q (by simp [hq])
theorem words_w_law4_1 : True := by
  k_with "subscriptTail" => ((with_reducible show wpAny _ _ (subscriptTail (Expr.Name _ _) _ (Value.ref _) (Value.int _ _)) _ _ _); (refine item_litK (News.isList (by k_asm) (by k_mem)) (by with_reducible assumption) (by omega) (by with_reducible assumption) ?_))
  k_with "call ref" => ((with_reducible show wpAny _ _ (call (Value.ref 253) [Value.str (sz (encW _ _)) _, Value.int _ _] _) _ _ _); (refine use_specV (s_read _ _ (by with_reducible assumption) _ _ _ (by with_reducible assumption) (by with_reducible assumption) (by omega)) (by walk_at "c_room") (by k_asm) (by k_asm) (by k_asm) (by k_asm) ?_); intro _ _ _ _ _)
  k_with "c_ne" => repeat' (first | ((fail_if_success (with_reducible show wpAny _ _ (compareOp CmpOp.NotEq (Value.ref _) (Value.ref _)) _ _ _)); first | (k_unfold; (try dsimp only)) | (k_end; wrow_close) | walk1 | (dsimp only; walk1) | (leave1; try dsimp only)) | fail "no step")
  k_with "c_back" => repeat' (first | ((fail_if_success (with_reducible show wpAny _ _ (exec (Stmt.Assign [Expr.Name (Str.ofString "back") _] _ _) _) _ _ _)); first | (k_unfold; (try dsimp only)) | (k_end; wrow_close) | walk1 | (dsimp only; walk1) | (leave1; try dsimp only)) | fail "no step")
  k_with "c_dec" => repeat' (first | ((fail_if_success (with_reducible show wpAny _ _ (call (.builtin "bytes.decode") _ _) _ _ _)); first | (k_unfold; (try dsimp only)) | (k_end; wrow_close) | walk1 | (dsimp only; walk1) | (leave1; try dsimp only)) | fail "no step")
  trivial

structure CutI (S : Shared) (b : Heap) (L : Addr) (m : Str → Option Value) (news : List (Addr × Obj)) (name : Str) (p : Int → Prop) (fl : Flow) (s' : Shared) : Prop where
  ex : fl = .next ∧ ∃ h' tk g t, s' = { S with heap := h', toks := tk } ∧ p g ∧ Fr b L h' (fun y => if y = name then some (.int g t) else m y) ∧ News b L h' news
theorem cut_int {M : Model} {A : Around} {E : Value → Shared → Prop} {s : Shared} {b : Heap} {L : Addr} {m : Str → Option Value} {news : List (Addr × Obj)} {t : Sem Flow} {P : Flow → Shared → Prop} (name : Str) (p : Int → Prop) (F : Fr b L s.heap m) (N : News b L s.heap news)
    (h1 : wpAny M A t (CutI s b L m news name p) E s) (h2 : ∀ h' tk g t', p g → Fr b L h' (fun y => if y = name then some (.int g t') else m y) → News b L h' news → P .next { s with heap := h', toks := tk }) : wpAny M A t P E s :=
  wpAny_mono h1 (fun fl s' c => by obtain ⟨rfl, h', tk, g, t', rfl, hp, F', N'⟩ := c.ex; exact h2 h' tk g t' hp F' N') fun _ _ x => x
theorem item_lastK {prog : Program} {w : World} {A : Around} {E Q : Value → Shared → Prop} {s : Shared} {value slice : Expr} {l : Addr} {pre : List Value} {x : Value} {u : Tok} (hl : s.heap.IsList l (pre ++ [x]).toArray) (h : Q x s)
    (hs : subscripted slice false (.ref l) (.int (-1) u) = operate [.ref l, .int (-1) u] (getItem (.ref l) (.int (-1) u)) := by with_unfolding_all rfl) :
    wpAny (model prog w) A (subscriptTail value slice (.ref l) (.int (-1) u)) Q E s :=
  tail_any hl.typeIs slot_list_getitem.lookup (wpAny_getItem_list_neg hl (by decide) (by simp; omega) (by decide) (by
    have e : (-1 + ((pre ++ [x]).toArray.size : Int)).toNat = pre.length := by simp; omega
    rw [e]; simp) h) hs
theorem item_abc {prog : Program} {w : World} {A : Around} {E Q : Value → Shared → Prop} {s : Shared} {value slice : Expr} {i : Nat} {t u : Tok} (hi : i < 3) (h : ∀ t' k, Q (.str (sz [97 + (i : Int)]) t') { s with toks := k })
    (hs : ∀ k, subscripted slice false (.str (Str.ofString "abc") t) (.int k u) = operate [.str (Str.ofString "abc") t, .int k u] (getItem (.str (Str.ofString "abc") t) (.int k u)) := by intro _; with_unfolding_all rfl)
    (ht : ∀ r, letTemporaryGo value (.str (Str.ofString "abc") t) r = pure () := by intro _; with_unfolding_all rfl) :
    wpAny (model prog w) A (subscriptTail value slice (.str (Str.ofString "abc") t) (.int (i : Int) u)) Q E s := by
  have e0 : Txt.item (Str.ofString "abc") 0 = sz [97] := by decide +kernel
  have e1 : Txt.item (Str.ofString "abc") 1 = sz [98] := by decide +kernel
  have e2 : Txt.item (Str.ofString "abc") 2 = sz [99] := by decide +kernel
  have el : (Str.ofString "abc").length = 3 := by decide +kernel
  obtain rfl | rfl | rfl : i = 0 ∨ i = 1 ∨ i = 2 := by omega
  · exact item_str (by decide) (by rw [el]; decide) (by rw [el]; decide) (fun _ => by have := h s.toks (s.toks + 1); rwa [show sz [97 + ((0 : Nat) : Int)] = Txt.item (Str.ofString "abc") ((0 : Nat) : Int) from e0.symm] at this) (hs _) ht
  · exact item_str (by decide) (by rw [el]; decide) (by rw [el]; decide) (fun _ => by have := h s.toks (s.toks + 1); rwa [show sz [97 + ((1 : Nat) : Int)] = Txt.item (Str.ofString "abc") ((1 : Nat) : Int) from e1.symm] at this) (hs _) ht
  · exact item_str (by decide) (by rw [el]; decide) (by rw [el]; decide) (fun _ => by have := h s.toks (s.toks + 1); rwa [show sz [97 + ((2 : Nat) : Int)] = Txt.item (Str.ofString "abc") ((2 : Nat) : Int) from e2.symm] at this) (hs _) ht
structure CnOk (K0 : List Int) (i : Nat) (K : List Int) (cs bs : List Value) (own : List (Addr × Obj)) : Prop where
  ex : ∃ cp tK, cs = cp ++ [.bytes (bz K) tK] ∧ Oct K ∧ K.length ≤ 100 ∧ (cp ++ [.bytes (bz K) tK]).length ≤ 3 ∧ bs.length ≤ 3 ∧ ∀ K' T tN own2, (∀ q ∈ own, q ∈ own2) → Lv (97 + (i : Int)) K K' T own2 → Cn K0 (i + 1) K' (cs ++ [.bytes (bz K') tN]) (bs ++ [.ref T]) own2
theorem Cn.ok {K0 K : List Int} {i : Nat} {cs bs : List Value} {own : List (Addr × Obj)} (h : Cn K0 i K cs bs own) (hi : i < 3) (hO : Oct K0) (hL : K0.length ≤ 8) : CnOk K0 i K cs bs own := by
  have k97 : Ks 97 := by unfold Ks; omega
  have k98 : Ks 98 := by unfold Ks; omega
  cases h with
  | zero t0 => exact ⟨[], t0, rfl, hO, by omega, by simp, by simp, fun K' T tN own2 ho l => .one _ _ _ _ _ l⟩
  | one t0 t1 K1 T0 _ l0 =>
    have := l0.len hO
    exact ⟨[.bytes (bz K0) t0], t1, rfl, (l0.as k97 hO).oct, by omega, by simp, by simp, fun K' T tN own2 ho l => .two _ _ _ _ _ _ _ _ (l0.mono ho) l⟩
  | two t0 t1 t2 K1 K2 T0 T1 _ l0 l1 =>
    have n1 := l0.len hO
    have a1 := l0.as k97 hO
    have n2 := l1.len a1.oct
    exact ⟨[.bytes (bz K0) t0, .bytes (bz K1) t1], t2, rfl, (l1.as k98 a1.oct).oct, by omega, by simp, by simp, fun K' T tN own2 ho l => .three _ _ _ _ _ _ _ _ _ _ _ (l0.mono ho) (l1.mono ho) l⟩
  | three => exact absurd hi (by decide)
theorem append_L {prog : Program} {w : World} {A : Around} {E Q : Value → Shared → Prop} {s : Shared} {h₀ : Heap} {L D : Addr} {m : Str → Option Value} {news news' : List (Addr × Obj)} {bs : List Value} {n : Nat} {x : Value} (F : Fr h₀ L s.heap m) (N : News h₀ L s.heap news)
    (U : Upd D (listOf bs.toArray n) (listOf (bs ++ [x]).toArray (n + 1)) news news') (hb : bs.length ≤ 3)
    (h : ∀ h', Fr h₀ L h' m → News h₀ L h' news' → Q .none { s with heap := h' }) : wpAny (model prog w) A (call (.builtin "list.append") [.ref D, x]) Q E s := by
  refine append_K F N (its := bs.toArray) (n := n) (by rw [List.push_toArray]; exact U) h ?_
  rw [List.size_toArray, sizeLine_eq]
  exact Nat.le_trans hb (by decide)
theorem words_w_law5_1 : True := by
  k_with "subscriptTail" => ((with_reducible show wpAny _ _ (subscriptTail (Expr.Name _ _) (Expr.UnaryOp _ _ _) (Value.ref _) (Value.int (-1) _)) _ _ _); (refine item_lastK (News.isList (by k_asm) (by k_mem)) ?_))
  k_with "subscriptTail" => ((with_reducible show wpAny _ _ (subscriptTail (Expr.Constant _ _ _) _ (Value.str _ _) (Value.int _ _)) _ _ _); (refine item_abc (by with_reducible assumption) ?_); intro _ _)
  k_with "c_fig" => repeat' (first | ((fail_if_success (with_reducible show wpAny _ _ (exec (Stmt.Assign [Expr.Name (Str.ofString "figure") _] _ _) _) _ _ _)); first | (k_unfold; (try dsimp only)) | (k_end; wrow_close) | walk1 | (dsimp only; walk1) | (leave1; try dsimp only)) | fail "no step")
  k_with "call builtin:list.append" => ((with_reducible show wpAny _ _ (call (Value.builtin _) [Value.ref _, _]) _ _ _); k_dflt ((refine append_L (by k_asm) (by k_asm) (by k_upd) (by with_reducible assumption) ?_); intro _ _ _))
  trivial

structure CutN (S : Shared) (b : Heap) (L lA : Addr) (fl : Flow) (s' : Shared) : Prop where
  ex : fl = .next ∧ ∃ D vs ns n h' tk, s' = { S with heap := h', toks := tk } ∧ Fr b L h' (fun y => if y = Str.ofString "numbers" then some (.ref D) else List.lookup y [(Str.ofString "script", Value.ref lA)]) ∧
    News b L h' [(D, listOf vs.toArray n), (89, tabObj #[]), (72, tabObj #[])] ∧ IntsAre vs ns ∧ 1 ≤ ns.length ∧ ns.length ≤ 8 ∧ @LT.lt Nat _ 89 D ∧ @LT.lt Nat _ 72 D
theorem news3 {b h : Heap} {L D D2 : Addr} {o o2 : Obj} (N : News b L h [(D, o), (D2, o2), (89, tabObj #[]), (72, tabObj #[])]) : News b L h [(D, o), (89, tabObj #[]), (72, tabObj #[])] := fun q hq => N q (by
  rcases List.mem_cons.mp hq with rfl | hq
  · exact .head _
  · exact .tail _ (.tail _ hq))
theorem news3x {b h : Heap} {L D D2 D3 D4 D5 : Addr} {o o2 o3 o4 o5 : Obj} (N : News b L h [(D, o), (D2, o2), (D3, o3), (D4, o4), (D5, o5), (89, tabObj #[]), (72, tabObj #[])]) : News b L h [(D, o), (D2, o2), (89, tabObj #[]), (72, tabObj #[])] := fun q hq => N q (by
  rcases List.mem_cons.mp hq with rfl | hq
  · exact .head _
  · rcases List.mem_cons.mp hq with rfl | hq
    · exact .tail _ (.head _)
    · exact .tail _ (.tail _ (.tail _ (.tail _ (.tail _ hq)))))
theorem cut_num {M : Model} {A : Around} {E : Value → Shared → Prop} {s : Shared} {b : Heap} {L lA : Addr} {t : Sem Flow} {P : Flow → Shared → Prop} (h1 : wpAny M A t (CutN s b L lA) E s)
    (h2 : ∀ D vs ns n h' tk, Fr b L h' (fun y => if y = Str.ofString "numbers" then some (.ref D) else List.lookup y [(Str.ofString "script", Value.ref lA)]) → News b L h' [(D, listOf vs.toArray n), (89, tabObj #[]), (72, tabObj #[])] → IntsAre vs ns → 1 ≤ ns.length → ns.length ≤ 8 → @LT.lt Nat _ 89 D → @LT.lt Nat _ 72 D → P .next { s with heap := h', toks := tk }) : wpAny M A t P E s :=
  wpAny_mono h1 (fun fl s' c => by obtain ⟨rfl, D, vs, ns, n, h', tk, rfl, a1, a2, a3, a4, a5, a6, a7⟩ := c.ex; exact h2 D vs ns n h' tk a1 a2 a3 a4 a5 a6 a7) fun _ _ x => x
theorem K_go {ns : List Int} {P : List Int → Prop} {G : Prop} (h8 : ns.length ≤ 8) (N : P (List.map (fun k' => Int.fmod k' 256) (List.drop 1 ns))) (k : ∀ K0, Oct K0 → K0.length ≤ 8 → P K0 → G) : G := by
  refine k _ (fun x hx => ?_) (by rw [List.length_map, List.length_drop]; omega) N
  obtain ⟨y, _, rfl⟩ := List.mem_map.mp hx
  exact ⟨Int.fmod_nonneg_of_pos _ (by decide), Int.fmod_lt_of_pos _ (by decide)⟩
section
variable {f : Int} {Ca Bu : Addr} {K0 : List Int} {i : Nat} {m : Str → Option Value} {nx : List (Addr × Obj)} {b h : Heap} {L I : Addr} {it : Obj} {G : Prop} {t : Tok}
theorem fr3 {x a1 a2 a3 : Str} {v v1 v2 v3 : Value} (F : Fr b L h (fun y => if y = x then some v else m y)) (h1 : m a1 = some v1) (h2 : m a2 = some v2) (h3 : m a3 = some v3) :
    Fr b L h (fun y => if y = x then some v else if y = a1 then some v1 else if y = a2 then some v2 else if y = a3 then some v3 else m y) := by
  have e : (fun y => if y = x then some v else if y = a1 then some v1 else if y = a2 then some v2 else if y = a3 then some v3 else m y) = fun y => if y = x then some v else m y := by
    funext y
    by_cases hx : y = x
    · rw [if_pos hx, if_pos hx]
    · rw [if_neg hx, if_neg hx]
      split
      · next e => rw [e, h1]
      · split
        · next e => rw [e, h2]
        · split
          · next e => rw [e, h3]
          · rfl
  rw [e]; exact F
theorem fr3b {a1 a2 a3 : Str} {v1 v2 v3 : Value} (F : Fr b L h m) (h1 : m a1 = some v1) (h2 : m a2 = some v2) (h3 : m a3 = some v3) :
    Fr b L h (fun y => if y = a1 then some v1 else if y = a2 then some v2 else if y = a3 then some v3 else m y) := by
  have e : (fun y => if y = a1 then some v1 else if y = a2 then some v2 else if y = a3 then some v3 else m y) = m := by
    funext y
    split
    · next e => rw [e, h1]
    · split
      · next e => rw [e, h2]
      · split
        · next e => rw [e, h3]
        · rfl
  rw [e]; exact F
/-- the first loop's turn: what lies there -/
theorem J1.go (hJ : J1 f Ca Bu K0 i m nx) (hi : i < 3) (hO : Oct K0) (hL : K0.length ≤ 8) (hI : ∀ p ∈ nx, p.1 ≠ I) (F : Fr b L h (fun y => if y = Str.ofString "level" then some (.int (0 + (i : Int)) t) else m y)) (N : News b L h ((I, it) :: nx))
    (k : ∀ K cp tK n1 bs n2 ps own tf, TabOk posJ ps → OwnOff own [Bu, Ca, 89, 72] → @Ne Nat I Bu → @Ne Nat I Ca → @Ne Nat I 89 → @Ne Nat I 72 → (∀ p ∈ (Bu, listOf bs.toArray n2) :: (Ca, listOf (cp ++ [Value.bytes (bz K) tK]).toArray n1) :: (89, tabObj ps) :: (72, tabObj #[]) :: own, p.1 ≠ I) →
      Oct K → K.length ≤ 100 → (cp ++ [Value.bytes (bz K) tK]).length ≤ 3 → bs.length ≤ 3 → (∀ K' T tN own2, (∀ q ∈ own, q ∈ own2) → Lv (97 + (i : Int)) K K' T own2 → Cn K0 (i + 1) K' ((cp ++ [Value.bytes (bz K) tK]) ++ [.bytes (bz K') tN]) (bs ++ [.ref T]) own2) →
      Fr b L h (fun y => if y = Str.ofString "level" then some (.int (i : Int) t) else if y = Str.ofString "carried" then some (.ref Ca) else if y = Str.ofString "built" then some (.ref Bu) else if y = Str.ofString "first" then some (.int f tf) else m y) →
      News b L h ((I, it) :: (Bu, listOf bs.toArray n2) :: (Ca, listOf (cp ++ [Value.bytes (bz K) tK]).toArray n1) :: (89, tabObj ps) :: (72, tabObj #[]) :: own) → G) : G := by
  obtain ⟨K, cs, n1, bs, n2, ps, own, tf, rfl, hps, hoff, hm1, hm2, hm3, hC⟩ := hJ.ex
  obtain ⟨cp, tK, rfl, hOC, hLC, hcl, hbl, hext⟩ := (hC.ok hi hO hL).ex
  rw [show (0 : Int) + ((i : Nat) : Int) = i from Int.zero_add _] at F
  exact k K cp tK n1 bs n2 ps own tf hps hoff (fun e => hI _ (.head _) e.symm) (fun e => hI _ (.tail _ (.head _)) e.symm) (fun e => hI _ (.tail _ (.tail _ (.head _))) e.symm) (fun e => hI _ (.tail _ (.tail _ (.tail _ (.head _)))) e.symm) hI hOC hLC hcl hbl hext (fr3 F hm1 hm2 hm3) N
/-- the first loop's end -/
theorem J1.fin (hJ : J1 f Ca Bu K0 3 m nx) (hO : Oct K0) (hL : K0.length ≤ 8) (F : Fr b L h m) (N : News b L h nx)
    (k : ∀ t0 t1 t2 t3 K1 K2 K T0 T1 T2 n1 n2 ps own tf, TabOk posJ ps → OwnOff own [Bu, Ca, 89, 72] → Lv 97 K0 K1 T0 own → Lv 98 K1 K2 T1 own → Lv 99 K2 K T2 own → As K → K ≠ [] → K.length ≤ 100000 →
      Fr b L h (fun y => if y = Str.ofString "carried" then some (.ref Ca) else if y = Str.ofString "built" then some (.ref Bu) else if y = Str.ofString "first" then some (.int f tf) else m y) →
      News b L h ((Bu, listOf #[.ref T0, .ref T1, .ref T2] n2) :: (Ca, listOf #[.bytes (bz K0) t0, .bytes (bz K1) t1, .bytes (bz K2) t2, .bytes (bz K) t3] n1) :: (89, tabObj ps) :: (72, tabObj #[]) :: own) → G) : G := by
  obtain ⟨K, cs, n1, bs, n2, ps, own, tf, rfl, hps, hoff, hm1, hm2, hm3, hC⟩ := hJ.ex
  cases hC with
  | three t0 t1 t2 t3 K1 K2 K3 T0 T1 T2 own l0 l1 l2 =>
    have hO1 : Oct K1 := (l0.as (by unfold Ks; omega) hO).oct
    have hN1 := l0.len hO
    have hO2 : Oct K2 := (l1.as (by unfold Ks; omega) hO1).oct
    have hN2 := l1.len hO1
    have hA3 : As K := l2.as (by unfold Ks; omega) hO2
    have hN3 := l2.len hO2
    exact k t0 t1 t2 t3 K1 K2 K T0 T1 T2 n1 n2 ps own tf hps hoff l0 l1 l2 hA3 l2.ne (by omega) (fr3b F hm1 hm2 hm3) N
/-- the second loop's turn -/
theorem J2.go {oB oC o89 ol : Obj} {own : List (Addr × Obj)} {X : Nat → List Int} {l : Addr} {bs cs : List Value} {k : Int} (hJ : J2 Ca Bu oB oC o89 own X i m nx) (hR : Rw own X bs cs i k) (hoff : OwnOff own [Bu, Ca, 89, 72]) (hI : ∀ p ∈ nx, p.1 ≠ I)
    (F : Fr b L h (fun y => if y = Str.ofString "level" then some (.int k t) else m y)) (N : News b L h ((I, it) :: (l, ol) :: nx))
    (go : ∀ ps2 tt key T3 Kl tl wy sh uw R2 nw, TabOk posS ps2 → 0 ≤ k → k < 3 → (i : Int) + k = 2 → (0 < k → X (i + 1) = Kl ∧ Kl ≠ [] ∧ As Kl) → Ks key → Oct Kl → Kl.length ≤ 1000 → bs[k.toNat]? = some (.ref T3) → cs[k.toNat]? = some (.bytes (bz Kl) tl) →
      0 ≤ wy → wy < 3 → 0 ≤ sh → sh < 3 → Lists (sz [key]) (sz (encW wy Kl)) sh (.ref R2) nw → (∀ q ∈ nw, q ∈ own) → @Ne Nat I 72 → @Ne Nat T3 72 → (∀ p ∈ (Bu, oB) :: (Ca, oC) :: (89, o89) :: (72, tabObj ps2) :: own, p.1 ≠ I) →
      Fr b L h (fun y => if y = Str.ofString "level" then some (.int k t) else if y = Str.ofString "carried" then some (.ref Ca) else if y = Str.ofString "built" then some (.ref Bu) else if y = Str.ofString "text" then some (.str (sz (dueL sh key (encW wy Kl))) tt) else m y) →
      News b L h ((T3, tupO [.int wy uw, .ref R2]) :: (I, it) :: (l, ol) :: (Bu, oB) :: (Ca, oC) :: (89, o89) :: (72, tabObj ps2) :: own) → G) : G := by
  obtain ⟨ps2, tt, rfl, hps2, hc1, hc2, hc3⟩ := hJ.ex
  obtain ⟨key, T3, Kl, tl, hk0, hk3, hik, hX, hLv, hKs, hOl, hLl, hbs, hcs⟩ := hR.ex
  obtain ⟨wy, sh, uw, Rv, nw, hw0, hw3, hs0, hs3, hLi, hin, hT, hXi⟩ := hLv.ex
  obtain ⟨R2, rfl⟩ := hLi.isRef
  have hc3 := hc3 (by omega)
  rw [hXi] at hc3
  exact go ps2 tt key T3 Kl tl wy sh uw R2 nw hps2 hk0 hk3 hik hX hKs hOl hLl hbs hcs hw0 hw3 hs0 hs3 hLi hin (fun e => hI (72, tabObj ps2) (.tail _ (.tail _ (.tail _ (.head _)))) e.symm) (hoff _ hT 72 (by simp)) hI (fr3 F hc1 hc2 hc3)
    (News.more N (.tail _ (.tail _ (.tail _ (.tail _ (.tail _ (.tail _ hT)))))))
end
section
variable {w : World} {A : Around} {E : Value → Shared → Prop} {s : Shared} {b : Heap} {L : Addr} {m : Str → Option Value} {Q : Value → Shared → Prop} {p : Program} {loose : List Str} {mean : ExcName → Option Value} {mg mb : Str → Option Value} {k sh : Int} {v : List Int} {news : List (Addr × Obj)} {g : Obj → List (Addr × Obj)}
theorem use_lists {TT I Bu Ca : Addr} {it bo co p89 p72 : Obj} {own : List (Addr × Obj)} {t1 t2 u : Tok} (h0 : 0 ≤ sh) (h2 : sh < 3) (R : Room A 1 20) (F : Fr b L s.heap m) (N : News b L s.heap ((TT, tupO [.str (sz [k]) t1, .str (sz v) t2]) :: (I, it) :: (Bu, bo) :: (Ca, co) :: (89, p89) :: (72, p72) :: own))
    (X : (hd.heap_1 w.params).In b) (T : Top p loose mean mg mb b) (hoff : OwnOff own [Bu, Ca, 89, 72]) (hI : ∀ p ∈ (Bu, bo) :: (Ca, co) :: (89, p89) :: (72, p72) :: own, p.1 ≠ I) (hl : @LT.lt Nat _ I TT ∧ @LT.lt Nat _ Bu TT ∧ @LT.lt Nat _ Ca TT ∧ @LT.lt Nat _ 89 TT ∧ @LT.lt Nat _ 72 TT ∧ AllLt TT own)
    (h : ∀ v4 h4 tk4 nw own2, Lists (sz [k]) (sz v) sh v4 nw → Fr b L h4 m → News b L h4 ((I, it) :: (Bu, bo) :: (Ca, co) :: (89, p89) :: (72, p72) :: own2) → OwnOff own2 [I, Bu, Ca, 89, 72] → (∀ q ∈ nw, q ∈ own2) → (∀ q ∈ own, q ∈ own2) → (∀ q ∈ nw, @LT.lt Nat _ 89 q.1) → Q v4 { s with heap := h4, toks := tk4 }) :
    wpAny (model PR w) A (call (.ref 260) [.int sh u, .ref TT] []) Q E s := by
  refine use_specX (s_lists w TT (sz [k]) (sz v) t1 t2 sh u h0 h2) R F N X T (fun q hq => by rcases List.mem_singleton.mp hq with rfl; exact .head _) ?_
  rintro v4 h4 tk4 ⟨st4, nw, hLi, hnw⟩
  have F4 := Fr.onS F st4
  have N4 := news_add F (News.onS N st4) st4 (fun q hq => ⟨(hnw q hq).1, (hnw q hq).2.1⟩)
  obtain ⟨b1, b2, b3, b4, b5, b6⟩ := hl
  obtain ⟨own2, N5, hoff2, hin2, hown2, h89⟩ := pack N4 hoff hI b1 b2 b3 b4 b5 (fun q hq => (hnw q hq).2.2)
  exact h v4 h4 tk4 _ own2 hLi F4 N5 hoff2 hin2 hown2 h89
theorem use_join {R : Value} {nw : List (Addr × Obj)} {ps : Array Value} (hL : Lists (sz [k]) (sz v) sh R nw) (h89 : ∀ q ∈ nw, @LT.lt Nat _ 89 q.1) (hk : Ks k) (hv : Vl v) (hz : v.length ≤ 50000) (hps : TabOk posJ ps) (Ro : Room A 1 20) (F : Fr b L s.heap m) (N : News b L s.heap news)
    (X : (hd.heap_1 w.params).In b) (T : Top p loose mean mg mb b) (U : UpdF 89 (tabObj ps) news g) (hin : ∀ q ∈ nw, q ∈ news)
    (h : ∀ ps6 h6 tk6 t6, TabOk posJ ps6 → Fr b L h6 m → News b L h6 (g (tabObj ps6)) → Q (.str (sz (dueL sh k v)) t6) { s with heap := h6, toks := tk6 }) :
    wpAny (model PR w) A (call (.ref 94) [R] []) Q E s := by
  obtain ⟨pre, post, e, hg, _, _⟩ := U.split
  have hm : (89, tabObj ps) ∈ news := by rw [e]; exact List.mem_append_right _ (.head _)
  refine use_specX (s_join w hL h89 hk hv hz ps hps) Ro F N X T (fun q hq => ?_) ?_
  · rcases List.mem_append.mp hq with hq | hq
    · exact hin q hq
    · rcases List.mem_singleton.mp hq with rfl; exact hm
  rintro v6 h6 tk6 ⟨⟨ps6, hps6, hx6, hp6⟩, t6, rfl⟩
  have n89 := N (89, tabObj ps) hm
  exact h ps6 h6 tk6 t6 hps6 (Fr.onExt F hx6 n89.2.2 n89.2.1.symm) (news_ext N U hx6 hp6)
theorem use_split {H : Addr} {nH : Nat} {tH : Tok} {ps : Array Value} (h0 : 0 ≤ sh) (h2 : sh < 3) (hk : Ks k) (hv : Vl v) (hz : v.length ≤ 3000) (hps : TabOk posS ps) (hH : @LT.lt Nat _ 72 H) (Ro : Room A 2 30) (F : Fr b L s.heap m) (N : News b L s.heap news)
    (X : (hd.heap_1 w.params).In b) (T : Top p loose mean mg mb b) (U : UpdF 72 (tabObj ps) news g) (hin : (H, listOf #[.str (sz (dueL sh k v)) tH] nH) ∈ news)
    (h : ∀ ps6 h6 tk6 R6 nw6, TabOk posS ps6 → Lists (sz [k]) (sz v) sh (.ref R6) nw6 → Fr b L h6 m → News b L h6 (nw6 ++ g (tabObj ps6)) → Q (.ref R6) { s with heap := h6, toks := tk6 }) :
    wpAny (model PR w) A (call (.ref 77) [.ref H] []) Q E s := by
  obtain ⟨pre, post, e, hg, _, _⟩ := U.split
  have hm : (72, tabObj ps) ∈ news := by rw [e]; exact List.mem_append_right _ (.head _)
  refine use_specX (s_splitL w H nH tH h0 h2 hk hv hz ps hps hH) Ro F N X T (fun q hq => ?_) ?_
  · rcases List.mem_cons.mp hq with rfl | hq
    · exact hin
    · rcases List.mem_singleton.mp hq with rfl; exact hm
  rintro v6 h6 tk6 ⟨⟨ps6, hps6, hx6, hp6⟩, nw6, hL6, hn6⟩
  obtain ⟨R6, rfl⟩ := hL6.isRef
  have n72 := N (72, tabObj ps) hm
  exact h ps6 h6 tk6 R6 nw6 hps6 hL6 (Fr.onExt F hx6 n72.2.2 n72.2.1.symm) (News.more2 (news_addExt F hn6) (news_ext N U hx6 hp6))
theorem Lists.last {key val : Str} {R : Addr} {nw : List (Addr × Obj)} {G : Prop} {h : Heap} (l : Lists key val sh (.ref R) nw) (N : News b L h news) (hm : ∀ q ∈ nw, q ∈ news)
    (k : ∀ P T preR preP nR nP t1 t2, News b L h ((R, listOf (preR ++ [Value.ref P]).toArray nR) :: (P, listOf (preP ++ [Value.ref T]).toArray nP) :: (T, tupO [.str key t1, .str val t2]) :: news) → G) : G := by
  cases l with
  | zero R P T n1 n2 t1 t2 =>
    exact k P T [] [] n1 n2 t1 t2 (News.more (News.more (News.more N (hm _ (.tail _ (.tail _ (.head _))))) (.tail _ (hm _ (.tail _ (.head _))))) (.tail _ (.tail _ (hm _ (.head _)))))
  | one R P U T n1 n2 t1 t2 tu =>
    exact k P T [] [.ref U] n1 n2 t1 t2 (News.more (News.more (News.more N (hm _ (.tail _ (.tail _ (.tail _ (.head _)))))) (.tail _ (hm _ (.tail _ (.head _))))) (.tail _ (.tail _ (hm _ (.head _)))))
  | two R P O U T n1 n2 n3 t1 t2 tu =>
    exact k O T [.ref P] [] n1 n3 t1 t2 (News.more (News.more (News.more N (hm _ (.tail _ (.tail _ (.tail _ (.tail _ (.head _))))))) (.tail _ (hm _ (.tail _ (.tail _ (.head _)))))) (.tail _ (.tail _ (hm _ (.head _)))))
end
section
variable {prog : Program} {w : World} {A : Around} {E Q : Value → Shared → Prop} {s : Shared} {i : Nat} {t u : Tok} {a : Int}
theorem fig_pow (hi : i < 3) (h : Q (.int (9 ^ ((i : Int).toNat)) s.toks) { s with toks := s.toks + 1 }) : wpAny (model prog w) A (binaryOp .Pow (.int 9 t) (.int (i : Int) u)) Q E s :=
  pow_int_small (by omega) (by omega) (by decide) h
theorem fig_div (hi : i < 3) (h : ∀ c : Int, Q (.int c s.toks) { s with toks := s.toks + 1 }) : wpAny (model prog w) A (binaryOp .FloorDiv (.int a t) (.int (9 ^ ((i : Int).toNat)) u)) Q E s := by
  obtain rfl | rfl | rfl : i = 0 ∨ i = 1 ∨ i = 2 := by omega
  · exact floordiv_int (by decide) (h _) (Or.inl (PyProof.noPylong_of_log2 (by decide +kernel)))
  · exact floordiv_int (by decide) (h _) (Or.inl (PyProof.noPylong_of_log2 (by decide +kernel)))
  · exact floordiv_int (by decide) (h _) (Or.inl (PyProof.noPylong_of_log2 (by decide +kernel)))
theorem fig_mod {b : Int} (hb : 0 < b) (h : ∀ g : Int, 0 ≤ g → g < b → Q (.int g s.toks) { s with toks := s.toks + 1 }) : wpAny (model prog w) A (binaryOp .Mod (.int a t) (.int b u)) Q E s :=
  mod_int (by omega) (h _ (Int.fmod_nonneg_of_pos _ hb) (Int.fmod_lt_of_pos _ hb))
end
theorem words_w_law6_1 : True := by
  k_with "binaryOp Pow int int" => ((with_reducible show wpAny _ _ (binaryOp Operator.Pow (Value.int 9 _) _) _ _ _); refine fig_pow (by with_reducible assumption) ?_)
  k_with "binaryOp FloorDiv int int" => ((with_reducible show wpAny _ _ (binaryOp Operator.FloorDiv _ (Value.int (9 ^ _) _)) _ _ _); refine fig_div (by with_reducible assumption) ?_; intros cf')
  k_with "binaryOp Mod int int" => first | ((with_reducible show wpAny _ _ (binaryOp Operator.Mod (Value.int cf' _) (Value.int 9 _)) _ _ _); refine fig_mod (by decide) ?_; intros gf' hgf0' hgf9') | ((with_reducible show wpAny _ _ (binaryOp Operator.Mod (Value.int gf' _) (Value.int 3 _)) _ _ _); refine fig_mod (by decide) ?_; intros kf' hkf0' hkf3')
  k_with "subscriptTail" => ((with_reducible show wpAny _ _ (subscriptTail _ (Expr.UnaryOp _ _ _) (Value.ref _) (Value.int (-1) _)) _ _ _); k_dflt (refine item_lastK (News.isList (by k_asm) (by k_mem)) ?_))
  k_with "c_dd" => repeat' (first | ((fail_if_success (with_reducible show wpAny _ _ (exec (Stmt.Assign [Expr.Name (Str.ofString "back") _] _ _) _) _ _ _)); first | (k_unfold; (try dsimp only)) | (k_end; wrow_close) | walk1 | (dsimp only; walk1) | (leave1; try dsimp only)) | fail "no step")
  trivial

section
theorem t_law : PySem.Challenge.rw_pa0038_01.Holds := hd (by
  w_top off
  k_go0
  (all_goals try k_fold)
  walk_at "c_first"
  rename_i w s₀ s₁ mg mb G Y fa o pm cd doc kV ho hcd hg X V T B TE TW ws hs hlay0 hLy hr1 hl2 wA1 wA2 lA vsS asS hLl ra w1 r0 hI hr2 hcA hcB hD h₁ X' T' K' F' codeJ N' l0 _ _
  replace F' : Fr (ghostOf s₁.heap [(93, 89), (76, 72)]) s₁.heap.objs.size h₁ (fun y => List.lookup y [(Str.ofString "script", Value.ref lA)]) := F'
  refine cut_num (b := ghostOf s₁.heap [(93, 89), (76, 72)]) (L := s₁.heap.objs.size) (lA := lA) ?_ ?_
  · k_steps
    · exact ⟨⟨rfl, _, _, _, _, _, _, rfl, by assumption, by assumption, by assumption, by omega, by omega, by walk_at "c_lt", by walk_at "c_lt"⟩⟩
    · refine ⟨⟨rfl, _, _, [16, 251, 255], _, _, _, rfl, by assumption, news3 (by assumption), .cons _ _ (.cons _ _ (.cons _ _ .nil)), by decide, by decide, by walk_at "c_lt", by walk_at "c_lt"⟩⟩
  clear F' N'
  intro D vsN ns nN h1 tk1 F1 N1 hIN hN1 hN8 hD1 hD2
  (try dsimp only)
  walk_at "c_for"
  refine For_invV (ghostOf s₁.heap [(93, 89), (76, 72)]) rfl rfl ?_
  walk_at "c_for"
  rename_i tB _ _ _ CaA _ l1a _ BuA _ l1b _ _ _ _ _ _ _ _ _ FR NR kR
  (try clear F1); (try clear N1)
  refine K_go (P := fun K => News _ _ _ [(BuA, _), (CaA, listOf #[Value.bytes (bz K) tB] _), _, _, (D, _), _, _]) hN8 NR ?_
  clear NR
  intro K0 hO0 hL0 NR
  generalize (ns.getD (Int.toNat 0) 0).fmod 729 = f0 at FR
  refine' forJ_range (a₀ := 0) (b₀ := 3) (J1 f0 CaA BuA K0) rfl ?hr (by decide) (n := 3) rfl FR (news3x NR) ?hj ?turn ?done
  case hr => first | assumption | exact Heap.get?_push_size _ rfl
  case hj => exact ⟨K0, [.bytes (bz K0) tB], 0, [], 0, #[], [], _, rfl, .inl rfl, fun _ h => absurd h List.not_mem_nil, rfl, rfl, rfl, .zero _ _⟩
  case turn =>
    clear FR NR
    intro i t m₁ news₁ I it h tk hi hJ hI0 F0 N0
    refine J1.go hJ hi hO0 hL0 hI0 F0 N0 ?_
    clear hJ hI0 F0 N0
    intro K cp tK n1 bs n2 ps own tf hps hoff i1 i2 i3 i4 hI hOC hLC hcl hbl hext F1 N1
    walk_at "c_octets"
    (rename Fr _ _ _ _ => FE)
    (try clear F1)
    have hV : Vl (encW kf' K) := encW_vl hOC
    have hA : As (encW kf' K) := vl_as hV
    have hVL := encW_len (k := kf') hOC
    have hz1 : K.length ≤ 1000 := Nat.le_trans hLC (by decide)
    have hzv : (encW kf' K).length ≤ 3000 := Nat.le_trans hVL (Nat.le_trans (Nat.add_le_add_right (Nat.mul_le_mul_left 2 hLC) 4) (by decide))
    have hz2 : (encW kf' K).length ≤ 100000 := Nat.le_trans hzv (by decide)
    have hz5 : (encW kf' K).length ≤ 50000 := Nat.le_trans hzv (by decide)
    clear hVL
    walk_at "c_bare"
    · exact bne_absurd (by assumption)
    refine cut_val (Str.ofString "bare") (.bool (bareV (encW kf' K))) (by k_asm) (by k_asm) ?_ ?_
    · k_steps
      · (rename Fr _ _ _ _ => FE); rw [bare_p1 hOC hkf0' hkf3' (by assumption) (by assumption)] at FE; exact ⟨⟨rfl, _, _, rfl, FE, by assumption⟩⟩
      · (rename Fr _ _ _ _ => FE); rw [bare_p2 hOC hkf0' hkf3' (by assumption) (by assumption) (by assumption)] at FE; exact ⟨⟨rfl, _, _, rfl, FE, by assumption⟩⟩
      · (rename Fr _ _ _ _ => FE); rw [bare_p3 hOC hkf0' hkf3' (by assumption) (by assumption)] at FE; exact ⟨⟨rfl, _, _, rfl, FE, by assumption⟩⟩
      · (rename Fr _ _ _ _ => FE); rw [bare_p4 hOC hkf0' hkf3' (by assumption)] at FE; exact ⟨⟨rfl, _, _, rfl, FE, by assumption⟩⟩
    intro h2 tk2 F2 N2
    walk_at "c_due"
    have hs0 : 0 ≤ Int.fdiv gf' 3 := Int.fdiv_nonneg hgf0' (by decide)
    have hs3 : Int.fdiv gf' 3 < 3 := by rw [Int.fdiv_eq_ediv_of_nonneg _ (by decide)]; omega
    have hpl : (sz (preL (Int.fdiv gf' 3))).length ≤ 3 := by rw [len_sz]; exact preL_len _
    have hvl : (sz (encW kf' K)).length ≤ 3000 := by rw [len_sz]; exact hzv
    have hkl : (sz [97 + (i : Int)]).length = 1 := len_sz _
    refine cut_str (Str.ofString "due") (sz (dueL (Int.fdiv gf' 3) (97 + (i : Int)) (encW kf' K))) (by k_asm) (by k_asm) ?_ ?_
    · k_steps
      · (rename Fr _ _ _ _ => FE); rw [due_1 (by assumption)] at FE; exact ⟨⟨rfl, _, _, _, rfl, FE, by first | assumption | exact News.tl (by assumption)⟩⟩
      · (rename Fr _ _ _ _ => FE); first | rw [due_2 (by assumption)] at FE | rw [due_2f (by assumption)] at FE
        exact ⟨⟨rfl, _, _, _, rfl, FE, by first | assumption | exact News.tl (by assumption)⟩⟩
    clear hpl hvl hkl; (try clear FE); (try clear F2); (try clear N2)
    intro h3 tk3 t3 F3 N3
    walk_at "c_260"
    (try clear F3); (try clear N3)
    (rename Fr _ _ _ _ => FC); (rename News _ _ _ _ => NC)
    refine use_lists (k := 97 + (i : Int)) (v := encW kf' K) hs0 hs3 (by walk_at "c_room") FC NC (by k_asm) (by k_asm) hoff hI (by with_reducible assumption) ?_
    clear FC NC hI hoff
    intro v4 h4 tk4 nw own2 hLi F4 N4 hoff2 hin2 hown2 h89
    have hKs : Ks (97 + (i : Int)) := by unfold Ks; omega
    have hDA : As (dueL (Int.fdiv gf' 3) (97 + (i : Int)) (encW kf' K)) := dueL_as hKs hV
    have hDL := dueL_len (Int.fdiv gf' 3) (97 + (i : Int)) (encW kf' K)
    have hDz : (dueL (Int.fdiv gf' 3) (97 + (i : Int)) (encW kf' K)).length ≤ 100000 := Nat.le_trans hDL (Nat.le_trans (Nat.add_le_add_right hzv 7) (by decide))
    clear hDL
    walk_at "c_94"
    (rename Fr _ _ _ _ => FC); (rename News _ _ _ _ => NC)
    refine use_join hLi h89 hKs hV hz5 hps (by walk_at "c_room") FC NC (by k_asm) (by k_asm) (by k_updF) (fun q hq => ?_) ?_
    · have hq2 := hin2 q hq
      (repeat (first | exact hq2 | refine List.mem_cons_of_mem _ ?_))
    clear FC NC; (try clear F4); (try clear N4)
    intro ps6 h6 tk6 t6 hps6 F6 N6
    k_steps
    · exact bne_absurd (by assumption)
    (rename News _ _ _ _ => NE); (rename Fr _ _ _ _ => FE)
    exact end_J1 FE NE hoff2 i1 i2 i3 i4 (by walk_at "c_lt") (by walk_at "c_lt") (by walk_at "c_lt") (by walk_at "c_lt") (by walk_at "c_lt") hps6 rfl rfl ⟨_, rfl⟩ (hext _ _ _ _ (fun q hq => .tail _ (hown2 q hq)) ⟨⟨kf', Int.fdiv gf' 3, _, v4, _, hkf0', hkf3', hs0, hs3, hLi, fun q hq => .tail _ (hin2 q hq), .head _, rfl⟩⟩)
  case done =>
    clear FR NR
    intro m₁ news₁ h tk hJ F0 N0
    refine J1.fin hJ hO0 hL0 F0 N0 ?_
    clear hJ F0 N0
    intro t0 t1 t2 t3 K1 K2 K T0 T1 T2 n1 n2 ps own tf hps hoff l0 l1 l2 hA3 hne3 hz3 F1 N1
    walk_at "c_for"
    refine For_invV (ghostOf s₁.heap [(93, 89), (76, 72)]) rfl rfl ?_
    walk_at "c_for"
    rename_i l2A _ _ _ lT2
    (rename Fr _ _ _ _ => FF); (rename News _ _ _ _ => NN)
    (try clear F1); (try clear N1)
    refine' forJ_list (ns := [2, 1, 0]) (J2 CaA BuA (listOf #[.ref T0, .ref T1, .ref T2] n2) (listOf #[.bytes (bz K0) t0, .bytes (bz K1) t1, .bytes (bz K2) t2, .bytes (bz K) t3] n1) (tabObj ps) own (chX K1 K2 K)) rfl (.cons _ _ (.cons _ _ (.cons _ _ .nil))) FF NN ?hj2 ?turn2 ?done2
    case hj2 => exact ⟨⟨#[], _, rfl, .inl rfl, rfl, rfl, fun _ => rfl⟩⟩
    case turn2 =>
      clear FF NN
      intro i k t m₂ news₂ I it h tk hk hJ hI0 F0 N0
      refine J2.go hJ (rw_of (t0 := t0) (t1 := t1) (t2 := t2) (t3 := t3) l0 l1 l2 hO0 hL0 hk) hoff hI0 F0 N0 ?_
      clear hJ hI0 F0 N0
      intro ps2 tt key T3 Kl tl wy sh uw R2 nw hps2 hk0 hk3 hik hX hKs hOl hLl hbs hcs hw0 hw3 hs0 hs3 hLi hin e1 e2 hI2 F2 N2
      have hV : Vl (encW wy Kl) := encW_vl hOl
      have hA : As (encW wy Kl) := vl_as hV
      have hVL := encW_len (k := wy) hOl
      have hzv : (encW wy Kl).length ≤ 3000 := Nat.le_trans hVL (Nat.le_trans (Nat.add_le_add_right (Nat.mul_le_mul_left 2 hLl) 4) (by decide))
      clear hVL
      walk_at "c_77"
      (rename Fr _ _ _ _ => FC); (rename News _ _ _ _ => NC)
      refine use_split hs0 hs3 hKs hV hzv hps2 (by walk_at "c_lt") (by walk_at "c_room") FC NC (by k_asm) (by k_asm) (by k_updF) (by k_mem) ?_
      clear FC NC; (try clear F2); (try clear N2)
      intro ps6 h6 tk6 R6 nw6 hps6 hL6 F6 N6
      walk_at "c_ne"
      (rename News _ _ _ _ => NE)
      refine ne_listsK NE hL6 hLi (fun q hq => List.mem_append_left _ hq) (fun q hq => List.mem_append_right _ (by have hq := hin q hq; repeat (first | exact hq | refine List.mem_cons_of_mem _ ?_))) hKs hA units_law ?_
      walk_at "c_back"
      (rename News _ _ _ _ => NE2)
      refine cut_byt (Str.ofString "back") (bz Kl) (by k_asm) (fun q hq => NE2 q (List.mem_append_right _ hq)) ?_ ?_
      · refine Lists.last hL6 NE2 (fun q hq => List.mem_append_left _ hq) ?_
        clear NE2; (try clear NE); (try clear N6)
        intro P6 T6 preR preP nR nP t16 t26 N7
        k_steps
        (rename Fr _ _ _ _ => FE); (rename News _ _ _ _ => NE)
        exact ⟨⟨rfl, _, _, _, rfl, FE, fun q hq => NE q (.tail _ (.tail _ (.tail _ (List.mem_append_right _ hq))))⟩⟩
      clear NE2; (try clear NE); (try clear N6)
      intro h7 tk7 t7 F7 N7
      walk_at "c_dec"
      · exact bne_absurd (by assumption)
      · obtain ⟨hx1, hx2, hx3⟩ := hX (by assumption)
        refine decodeK hx3 hx2 (Nat.le_trans hLl (by decide)) ?_
        intro t' k'
        k_steps
        (rename Fr _ _ _ _ => FE); (rename News _ _ _ _ => NE)
        exact end_J2 FE NE (fun q hq => .tail _ (.tail _ hq)) (ne4 hI2) (tl4 lT2.1 lT2.2.1 lT2.2.2.1 lT2.2.2.2.1 lT2.2.2.2.2) hps6 rfl rfl ⟨t', fun _ => by rw [hx1]; rfl⟩
      · (rename Fr _ _ _ _ => FE); (rename News _ _ _ _ => NE)
        walk_at "c_out"
        exact end_J2 FE NE (fun q hq => .tail _ (.tail _ hq)) (ne4 hI2) (tl4 lT2.1 lT2.2.1 lT2.2.2.1 lT2.2.2.2.1 lT2.2.2.2.2) hps6 rfl rfl ⟨tt, fun h => absurd h (by omega)⟩
    case done2 =>
      rintro m₂ news₂ h tk ⟨ps2, tt, rfl, hps2, hc1, hc2, hc3⟩ F2 N2
      clear FF NN
      k_steps)
end

end Mine
theorem PySem.Challenge.cw_pa0038_01_holds : PySem.Challenge.rw_pa0038_01.Holds :=
  Mine.t_law
