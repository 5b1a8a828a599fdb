import PyProof.Rows.All
import Wide.All
import OpenK.AllK
import Wide.FinOn
import Lean
import PySem.Challenge.RW_qh0089_01
open PySem PySem.W PyProof.Rows PySem.Calls
set_option Elab.async false
set_option maxRecDepth 100000
set_option maxHeartbeats 8000000
set_option linter.unusedSimpArgs false
set_option linter.unnecessarySimpa false
set_option linter.unusedVariables false
set_option compiler.extract_closed false
namespace Mine
open_top hd for PySem.Challenge.rw_qh0089_01
noncomputable abbrev LS : List Str := looseW hd.view_39 [Str.ofString "bytes_types", Str.ofString "a2b_base64", Str.ofString "b2a_base64", Str.ofString "b64encode", Str.ofString "b64decode", Str.ofString "_urlsafe_encode_translation", Str.ofString "escape"]
noncomputable abbrev PR : Program := PySem.Challenge.rw_qh0089_01.row.prog
/-- a call of the def at f, with these arguments, hands back R; k frames and units are wanted -/
noncomputable abbrev Spec (k : Nat) (w : World) (mean : ExcName → Option Value) (mg mb : Str → Option Value) (f : Addr) (vs : List Value) (kw : List (Str × Value)) (R : Tok → Value) : Prop :=
  ∀ (news : List (Addr × Obj)) (dp un : Nat) (gd : Option (List Code)) (cn : Str) (cs : Scope) (a : Addr) (ccd : Value) (cl : List (Str × Addr)) (outer : List Env) (A₀ : Around) (base h₀ : Heap) (L : Addr) (m : Str → Option Value) (s : Shared) (Q E : Value → Shared → Prop),
    Below A₀ base outer h₀ → Fr h₀ L s.heap m → (hd.heap_39 w.params).In h₀ → News h₀ L s.heap news → Top hd.view_39 LS mean mg mb h₀ → cs.kind = .function →
    dp + k < recursionLimit → un + 8 * k < cLine → CbRet h₀ L m news s Q R →
      wpAny (model PR w) (ktrTop dp un gd cn cs L a ccd cl outer) (call (.ref f) vs kw) Q E s
section
theorem band_in (x : Int) {m : Int} (hm : 0 ≤ m) : 0 ≤ Builtin.bitAnd x m ∧ Builtin.bitAnd x m ≤ m := by
  unfold Builtin.bitAnd
  by_cases hx : 0 ≤ x
  · simp only [hx, hm, decide_true]
    have := @Nat.and_le_right x.toNat m.toNat
    omega
  · simp only [hx, hm, decide_true, decide_false]
    have := @Nat.and_le_left m.toNat (Builtin.bitNot x).toNat
    omega
theorem band_nat (x y : Nat) : Builtin.bitAnd (x : Int) (y : Int) = ((x &&& y : Nat) : Int) := by
  unfold Builtin.bitAnd
  simp
theorem bor_nat (x y : Nat) : Builtin.bitOr (x : Int) (y : Int) = ((x ||| y : Nat) : Int) := by
  unfold Builtin.bitOr Builtin.bitAnd Builtin.bitNot
  have h1 : ¬ (0 : Int) ≤ -(x : Int) - 1 := by omega
  have h2 : ¬ (0 : Int) ≤ -(y : Int) - 1 := by omega
  simp only [h1, h2, decide_false]
  have e1 : (-(-(x : Int) - 1) - 1).toNat = x := by omega
  have e2 : (-(-(y : Int) - 1) - 1).toNat = y := by omega
  rw [e1, e2]
  omega
noncomputable def b64l : List UInt8 := [65, 66, 67, 68, 69, 70, 71, 72, 73, 74, 75, 76, 77, 78, 79, 80, 81, 82, 83, 84, 85, 86, 87, 88, 89, 90, 97, 98, 99, 100, 101, 102, 103, 104, 105, 106, 107, 108, 109, 110, 111, 112, 113, 114, 115, 116, 117, 118, 119, 120, 121, 122, 48, 49, 50, 51, 52, 53, 54, 55, 56, 57, 43, 47]
noncomputable def b64c (i : Int) : Int := ((b64l.getD i.toNat 0).toNat : Int)
theorem sub_b64 {prog : Program} {w : World} {A : Around} {E : Value → Shared → Prop} {s : Shared} {t u : Tok} {value slice : PySem.Expr} {i : Int} {Q : Value → Shared → Prop} (h0 : 0 ≤ i) (h1 : i < 64) (h : Q (.int (b64c i) s.toks) { s with toks := s.toks + 1 })
    (hs : subscripted slice false (.bytes b64l.toArray t) (.int i u) = operate [.bytes b64l.toArray t, .int i u] (getItem (.bytes b64l.toArray t) (.int i u)) := by with_unfolding_all rfl) (ht : ∀ r, letTemporaryGo value (.bytes b64l.toArray t) r = pure () := by intro _; with_unfolding_all rfl) :
    wpAny (model prog w) A (subscriptTail value slice (.bytes b64l.toArray t) (.int i u)) Q E s :=
  subscriptTail_builtin (typeIs_bytes _ _ _) FB.slot_bytes_getitem.lookup (getItem_bytes (by decide) h0 (by show i < ((64 : Nat) : Int); exact h1) h) hs ht
theorem band_3 (x : Int) : 0 ≤ Builtin.bitAnd x 3 * 2 ^ Int.toNat 4 ∧ Builtin.bitAnd x 3 * 2 ^ Int.toNat 4 < 64 := by
  have h := band_in x (m := 3) (by decide)
  have e : (2 : Int) ^ Int.toNat 4 = 16 := by decide
  rw [e]; omega
theorem band_15 (x : Int) : 0 ≤ Builtin.bitAnd x 15 * 2 ^ Int.toNat 2 ∧ Builtin.bitAnd x 15 * 2 ^ Int.toNat 2 < 64 := by
  have h := band_in x (m := 15) (by decide)
  have e : (2 : Int) ^ Int.toNat 2 = 4 := by decide
  rw [e]; omega
theorem b64c_in (i : Int) : 0 ≤ b64c i ∧ b64c i < 256 := by
  unfold b64c
  have := (b64l.getD i.toNat 0).toNat_lt
  omega
/-- one octet more: bits left over, the last sixteen bits, the signs so far -/
noncomputable def encStep (st : Int × Int × List Int) (n : Int) : Int × Int × List Int :=
  let lc := Builtin.bitAnd (Builtin.bitOr (st.2.1 * 2 ^ Int.toNat 8) n) 65535
  if st.1 = 0 then (2, lc, st.2.2 ++ [b64c (Builtin.bitAnd (lc.fdiv (2 ^ Int.toNat 2)) 63)])
  else if st.1 = 2 then (4, lc, st.2.2 ++ [b64c (Builtin.bitAnd (lc.fdiv (2 ^ Int.toNat 4)) 63)])
  else (0, lc, st.2.2 ++ [b64c (Builtin.bitAnd (lc.fdiv (2 ^ Int.toNat 6)) 63)] ++ [b64c (Builtin.bitAnd (lc.fdiv (2 ^ Int.toNat 0)) 63)])
noncomputable def encEnd (st : Int × Int × List Int) : List Int :=
  if st.1 = 2 then st.2.2 ++ [b64c (Builtin.bitAnd st.2.1 3 * 2 ^ Int.toNat 4)] ++ [61] ++ [61]
  else if st.1 = 4 then st.2.2 ++ [b64c (Builtin.bitAnd st.2.1 15 * 2 ^ Int.toNat 2)] ++ [61]
  else st.2.2
noncomputable def encInts (ks : List Int) : List Int := encEnd (ks.foldl encStep (0, 0, []))
noncomputable def Pst (pre : List Int) (lb lc : Int) (out : List Int) : Prop :=
  (lb = 0 ∨ lb = 2 ∨ lb = 4) ∧ 0 ≤ lc ∧ lc < 65536 ∧ out.length ≤ 2 * pre.length ∧ KBa.In out ∧ pre.foldl encStep (0, 0, []) = (lb, lc, out)
theorem pst_nil : Pst [] 0 0 [] := ⟨Or.inl rfl, by decide, by decide, by decide, fun _ h => (nomatch h), rfl⟩
theorem in_snoc {out : List Int} {x : Int} (h : KBa.In out) (hx : 0 ≤ x ∧ x < 256) : KBa.In (out ++ [x]) := fun n hn => by
  rcases List.mem_append.mp hn with hn | hn
  · exact h n hn
  · rw [List.mem_singleton.mp hn]; exact hx
theorem pst_0 {pre out : List Int} {lc n : Int} (h : Pst pre 0 lc out) :
    Pst (pre ++ [n]) (0 + 8 - 6) (Builtin.bitAnd (Builtin.bitOr (lc * 2 ^ Int.toNat 8) n) 65535) (out ++ [b64c (Builtin.bitAnd ((Builtin.bitAnd (Builtin.bitOr (lc * 2 ^ Int.toNat 8) n) 65535).fdiv (2 ^ (0 + 8 - 6 : Int).toNat)) 63)]) := by
  obtain ⟨-, -, -, h1, h2, h3⟩ := h
  have hb := band_in (Builtin.bitOr (lc * 2 ^ Int.toNat 8) n) (m := 65535) (by decide)
  refine ⟨by decide, hb.1, by omega, by simp; omega, in_snoc h2 (b64c_in _), ?_⟩
  rw [List.foldl_append, h3]
  rfl
theorem pst_2 {pre out : List Int} {lc n : Int} (h : Pst pre 2 lc out) :
    Pst (pre ++ [n]) (2 + 8 - 6) (Builtin.bitAnd (Builtin.bitOr (lc * 2 ^ Int.toNat 8) n) 65535) (out ++ [b64c (Builtin.bitAnd ((Builtin.bitAnd (Builtin.bitOr (lc * 2 ^ Int.toNat 8) n) 65535).fdiv (2 ^ (2 + 8 - 6 : Int).toNat)) 63)]) := by
  obtain ⟨-, -, -, h1, h2, h3⟩ := h
  have hb := band_in (Builtin.bitOr (lc * 2 ^ Int.toNat 8) n) (m := 65535) (by decide)
  refine ⟨by decide, hb.1, by omega, by simp; omega, in_snoc h2 (b64c_in _), ?_⟩
  rw [List.foldl_append, h3]
  rfl
theorem pst_4 {pre out : List Int} {lc n : Int} (h : Pst pre 4 lc out) :
    Pst (pre ++ [n]) (4 + 8 - 6 - 6) (Builtin.bitAnd (Builtin.bitOr (lc * 2 ^ Int.toNat 8) n) 65535) (out ++ [b64c (Builtin.bitAnd ((Builtin.bitAnd (Builtin.bitOr (lc * 2 ^ Int.toNat 8) n) 65535).fdiv (2 ^ (4 + 8 - 6 : Int).toNat)) 63)] ++ [b64c (Builtin.bitAnd ((Builtin.bitAnd (Builtin.bitOr (lc * 2 ^ Int.toNat 8) n) 65535).fdiv (2 ^ (4 + 8 - 6 - 6 : Int).toNat)) 63)]) := by
  obtain ⟨-, -, -, h1, h2, h3⟩ := h
  have hb := band_in (Builtin.bitOr (lc * 2 ^ Int.toNat 8) n) (m := 65535) (by decide)
  refine ⟨by decide, hb.1, by omega, by simp; omega, in_snoc (in_snoc h2 (b64c_in _)) (b64c_in _), ?_⟩
  rw [List.foldl_append, h3]
  rfl
theorem band_abs (x : Int) {m : Int} (hm : 0 ≤ m) (hb : m < 2 ^ 64) : (Builtin.bitAnd x m).natAbs < 2 ^ 64 := by
  have h := band_in x hm
  have e : ((2 ^ 64 : Nat) : Int) = 2 ^ 64 := by decide
  omega
theorem enc_end_0 {b : Array UInt8} {ks out : List Int} {lc : Int} (e : KBw.bInts b = ks) (h : Pst ks 0 lc out) : encInts (KBw.bInts b) = out := by
  obtain ⟨-, -, -, -, -, h⟩ := h
  rw [e]; unfold encInts; rw [h]; rfl
theorem enc_end_2 {b : Array UInt8} {ks out : List Int} {lc : Int} (e : KBw.bInts b = ks) (h : Pst ks 2 lc out) : encInts (KBw.bInts b) = out ++ [b64c (Builtin.bitAnd lc 3 * 2 ^ Int.toNat 4)] ++ [61] ++ [61] := by
  obtain ⟨-, -, -, -, -, h⟩ := h
  rw [e]; unfold encInts; rw [h]; rfl
theorem enc_end_4 {b : Array UInt8} {ks out : List Int} {lc : Int} (e : KBw.bInts b = ks) (h : Pst ks 4 lc out) : encInts (KBw.bInts b) = out ++ [b64c (Builtin.bitAnd lc 15 * 2 ^ Int.toNat 2)] ++ [61] := by
  obtain ⟨-, -, -, -, -, h⟩ := h
  rw [e]; unfold encInts; rw [h]; rfl
theorem bytes_made {prog : Program} {w : World} {A : Around} {E : Value → Shared → Prop} {s : Shared} {h₀ : Heap} {L D : Addr} {m : Str → Option Value} {news : List (Addr × Obj)} {vs : List Value} {ns : List Int} {c : Nat} {Q : Value → Shared → Prop}
    (F : Fr h₀ L s.heap m) (N : News h₀ L s.heap ((D, listOf vs.toArray c) :: news)) (hh : A.handled = none) (hi : IntsAre vs ns) (hr : KBa.In ns) (hn : ns.length ≤ 16777216)
    (h : ∀ h' t' k, Fr h₀ L h' m → News h₀ L h' news → Q (.bytes (byteArr ns) t') { s with heap := h', toks := k }) : wpAny (model prog w) A (call (.type "bytes") [.ref D]) Q E s :=
  KBa.make_K F N hh ⟨_, (N _ (List.Mem.head _)).1, rfl, c, rfl⟩ hi hr hn fun h' t' k F' N' _ => h h' t' k F' (fun p hp => N' p (List.Mem.tail _ hp))
theorem all_ne_of_lt {news : List (Addr × Obj)} {d : Addr} (h : ∀ p ∈ news, p.1 < d) : ∀ p ∈ news, p.1 ≠ d := fun p hp => Nat.ne_of_lt (h p hp)
theorem all_ne_app {a b : List (Addr × Obj)} {d : Addr} (h : ∀ p ∈ a, p.1 ≠ d) (k : ∀ p ∈ b, p.1 ≠ d) : ∀ p ∈ a ++ b, p.1 ≠ d := fun p hp => (List.mem_append.mp hp).elim (h p) (k p)
theorem use {k : Nat} {w : World} {mean : ExcName → Option Value} {mg mb : Str → Option Value} {f : Addr} {vs : List Value} {kw : List (Str × Value)} {R : Tok → Value} (S : Spec k w mean mg mb f vs kw R)
    {news : List (Addr × Obj)} {dp un : Nat} {gd : Option (List Code)} {cn : Str} {cs : Scope} {a : Addr} {ccd : Value} {cl : List (Str × Addr)} {outer : List Env} {A₀ : Around} {base h₀ : Heap} {L : Addr} {m : Str → Option Value} {s : Shared} {Q E : Value → Shared → Prop}
    (B : Below A₀ base outer h₀) (F : Fr h₀ L s.heap m) (X : (hd.heap_39 w.params).In h₀) (N : News h₀ L s.heap news) (T : Top hd.view_39 LS mean mg mb h₀) (hk : cs.kind = .function) (hd : dp + k < recursionLimit) (hu : un + 8 * k < cLine)
    (ret : ∀ (t : Tok) (h' : Heap) (tk' : Nat), Fr h₀ L h' m → News h₀ L h' news → Q (R t) { s with heap := h', toks := tk' }) :
    wpAny (model PR w) (ktrTop dp un gd cn cs L a ccd cl outer) (call (.ref f) vs kw) Q E s := S _ _ _ _ _ _ _ _ _ _ _ _ _ _ _ _ _ _ B F X N T hk hd hu ret
theorem pst_app : ∀ (l pre : List Int), (∃ lb lc out, Pst pre lb lc out) → ∃ lb lc out, Pst (pre ++ l) lb lc out
  | [], pre, h => by simpa using h
  | n :: r, pre, ⟨lb, lc, out, h⟩ => by
    have e : pre ++ n :: r = (pre ++ [n]) ++ r := by simp
    rw [e]
    refine pst_app r (pre ++ [n]) ?_
    rcases h.1 with rfl | rfl | rfl
    · exact ⟨_, _, _, pst_0 h⟩
    · exact ⟨_, _, _, pst_2 h⟩
    · exact ⟨_, _, _, pst_4 h⟩
theorem pst_all (ks : List Int) : ∃ lb lc out, Pst ks lb lc out := by
  have h := pst_app ks [] ⟨_, _, _, pst_nil⟩
  simpa using h
theorem enc_len (ks : List Int) : (encInts ks).length ≤ 2 * ks.length + 3 := by
  obtain ⟨lb, lc, out, h⟩ := pst_all ks
  obtain ⟨h1, -, -, h2, -, h3⟩ := h
  unfold encInts encEnd
  rw [h3]
  dsimp only
  split
  · simp; omega
  · split
    · simp; omega
    · omega
theorem byteArr_size (ns : List Int) : (byteArr ns).size = ns.length := by simp [byteArr]
noncomputable def urlL : List UInt8 := [0, 1, 2, 3, 4, 5, 6, 7, 8, 9, 10, 11, 12, 13, 14, 15, 16, 17, 18, 19, 20, 21, 22, 23, 24, 25, 26, 27, 28, 29, 30, 31, 32, 33, 34, 35, 36, 37, 38, 39, 40, 41, 42, 45, 44, 45, 46, 95, 48, 49, 50, 51, 52, 53, 54, 55, 56, 57, 58, 59, 60, 61, 62, 63, 64, 65, 66, 67, 68, 69, 70, 71, 72, 73, 74, 75, 76, 77, 78, 79, 80, 81, 82, 83, 84, 85, 86, 87, 88, 89, 90, 91, 92, 93, 94, 95, 96, 97, 98, 99, 100, 101, 102, 103, 104, 105, 106, 107, 108, 109, 110, 111, 112, 113, 114, 115, 116, 117, 118, 119, 120, 121, 122, 123, 124, 125, 126, 127, 128, 129, 130, 131, 132, 133, 134, 135, 136, 137, 138, 139, 140, 141, 142, 143, 144, 145, 146, 147, 148, 149, 150, 151, 152, 153, 154, 155, 156, 157, 158, 159, 160, 161, 162, 163, 164, 165, 166, 167, 168, 169, 170, 171, 172, 173, 174, 175, 176, 177, 178, 179, 180, 181, 182, 183, 184, 185, 186, 187, 188, 189, 190, 191, 192, 193, 194, 195, 196, 197, 198, 199, 200, 201, 202, 203, 204, 205, 206, 207, 208, 209, 210, 211, 212, 213, 214, 215, 216, 217, 218, 219, 220, 221, 222, 223, 224, 225, 226, 227, 228, 229, 230, 231, 232, 233, 234, 235, 236, 237, 238, 239, 240, 241, 242, 243, 244, 245, 246, 247, 248, 249, 250, 251, 252, 253, 254, 255]
theorem urlL_size : urlL.toArray.size = 256 := by decide +kernel
open PySem.Builtin PySem.Builtin._codecs
theorem findIdx_clean {a : Array Nat} {p : Nat → Bool} (h : ∀ y ∈ a.toList, p y = false) : Array.findIdx? p a = none := by
  rw [Array.findIdx?_eq_none_iff]
  intro y hy
  exact h y (Array.mem_toList_iff.mpr hy)
theorem loop2 {σ : Type} (f : Nat → σ → Sem (ForInStep σ)) (s0 s1 : σ) (n : Nat) (h0 : ∀ x, f x s0 = pure (.yield s1)) (h1 : ∀ x, f x s1 = pure (.done s1)) : forIn (List.range' 0 (n + 1)) s0 f = (pure s1 : Sem σ) := by
  rw [List.range'_succ, List.forIn_cons, h0]
  show (forIn (List.range' 1 n) s1 f : Sem σ) = pure s1
  cases n with
  | zero => rfl
  | succ k => rw [List.range'_succ, List.forIn_cons, h1]; rfl
theorem encodeNarrow_clean (id : String) (c : TextCodec) (self : Value) (x : Str) (h : ∀ y ∈ x.cps.toList, c.bad y = false)
    (hsz : (x.cps.foldl (fun acc y => acc ++ (c.bytesOf y).toArray) #[]).size ≤ sizeLine) :
    encodeNarrow id c none self x = pure (x.cps.foldl (fun acc y => acc ++ (c.bytesOf y).toArray) #[]) := by
  obtain ⟨arr⟩ := x
  have hfi : Array.findIdx? c.bad arr = none := findIdx_clean h
  have hg2 : ¬ (arr.foldl (fun acc y => acc ++ (c.bytesOf y).toArray) #[]).size > sizeLine := Nat.not_lt.mpr hsz
  rcases Nat.eq_zero_or_pos arr.size with hn | hn
  · have : arr = #[] := Array.eq_empty_of_size_eq_zero hn
    subst this
    unfold encodeNarrow
    dsimp only
    rw [Std.Legacy.Range.forIn_eq_forIn_range']
    rfl
  · have h0 : ∃ y, arr[0]? = some y ∧ c.bad y = false := ⟨arr[0], by simp [hn], h _ (by simp)⟩
    obtain ⟨y, hy, hby⟩ := h0
    have hx : arr.extract 0 arr.size = arr := by simp
    have hg : ¬ (#[] : Array UInt8).size > sizeLine := by simp
    have hno : arr[arr.size]? = none := by simp
    have hr : List.range' 0 (Std.Legacy.Range.size [0 : (⟨arr⟩ : Str).length]) = List.range' 0 (arr.size - 1 + 1) := by
      show List.range' 0 ((arr.size - 0 + 1 - 1) / 1) = _
      rw [show (arr.size - 0 + 1 - 1) / 1 = arr.size - 1 + 1 by omega]
    unfold encodeNarrow
    dsimp only
    rw [Std.Legacy.Range.forIn_eq_forIn_range', hr, loop2 _ _ (0 + arr.size, arr.foldl (fun acc y => acc ++ (c.bytesOf y).toArray) #[], {}) (arr.size - 1) ?a ?b]
    · rfl
    · intro z
      dsimp only
      rw [if_neg hg, hy]
      dsimp only
      rw [hby, hx, hfi]
      refine Eq.trans (if_pos rfl) ?_
      show (pure (ForInStep.yield (0 + arr.size, (arr.extract 0 arr.size).foldl (fun acc y => acc ++ (c.bytesOf y).toArray) #[], ({} : Faults))) : Sem _) = _
      rw [hx]
    · intro z
      dsimp only
      rw [if_neg hg2, Nat.zero_add, hno]
theorem encode_utf8_tree (x : Str) (t u : Tok) : «str.encode» ⟨[.str x t, .str (Str.ofString "utf-8") u], []⟩ = (do ret (← encodeRoad "str.encode" (.str x t) x (Str.ofString "utf-8") none)) := by
  first | rfl | kernel_rfl
theorem encode_ascii_tree (x : Str) (t u : Tok) : «str.encode» ⟨[.str x t, .str (Str.ofString "ascii") u], []⟩ = (do ret (← encodeRoad "str.encode" (.str x t) x (Str.ofString "ascii") none)) := by
  first | rfl | kernel_rfl
theorem encodeRoad_ascii (id : String) (self : Value) (x : Str) : encodeRoad id self x (Str.ofString "ascii") none = (do mkBytes (← encodeNarrow id asciiCodec none self x)) := by
  first | rfl | (unfold encodeRoad; rfl) | kernel_rfl
/-- the octets of a text -/
noncomputable def utf8b (l : List Nat) : List UInt8 := l.flatMap Str.utf8Of
theorem foldl_bytes (f : Nat → List UInt8) : ∀ (l : List Nat) (acc : Array UInt8), l.foldl (fun acc y => acc ++ (f y).toArray) acc = acc ++ (l.flatMap f).toArray
  | [], acc => by simp
  | y :: r, acc => by
    rw [List.foldl_cons, foldl_bytes f r]
    simp
theorem meets_encode_utf8 (x : Str) (t u : Tok) (h : ∀ y ∈ x.cps.toList, Str.isSurrogate y = false) :
    Meets («str.encode» ⟨[.str x t, .str (Str.ofString "utf-8") u], []⟩) (fun _ R s => (utf8b x.cps.toList).length ≤ sizeLine ∧ ∀ t' k, R (.ok (.ret (.bytes (utf8b x.cps.toList).toArray t'))) { s with toks := k }) := by
  refine .of_wp fun prog w A R s hS => ?_
  obtain ⟨hsz, hq⟩ := hS
  have e : x.cps.foldl (fun acc y => acc ++ (utf8Codec.bytesOf y).toArray) #[] = (utf8b x.cps.toList).toArray := by
    rw [← Array.foldl_toList, foldl_bytes]
    simp [utf8b]; rfl
  rw [encode_utf8_tree, encodeRoad_utf8, encodeNarrow_clean _ _ _ _ h (by rw [e]; simpa using hsz), e]
  refine wpAny_bind (wpAny_bind (wpAny_pure ?_))
  refine (wpAny_mkBytes ?_ (by simpa using hsz))
  exact wpAny_pure ⟨_, rfl, hq _ _⟩
theorem meets_encode_ascii (x : Str) (t u : Tok) (h : ∀ y ∈ x.cps.toList, y < 128) :
    Meets («str.encode» ⟨[.str x t, .str (Str.ofString "ascii") u], []⟩) (fun _ R s => x.length ≤ sizeLine ∧ ∀ t' k, R (.ok (.ret (.bytes (x.cps.toList.map Nat.toUInt8).toArray t'))) { s with toks := k }) := by
  refine .of_wp fun prog w A R s hS => ?_
  obtain ⟨hsz, hq⟩ := hS
  have e : x.cps.foldl (fun acc y => acc ++ (asciiCodec.bytesOf y).toArray) #[] = (x.cps.toList.map Nat.toUInt8).toArray := by
    rw [← Array.foldl_toList, foldl_bytes]
    simp only [Array.empty_append]
    congr 1
    rw [List.map_eq_flatMap]; rfl
  have hs2 : (x.cps.toList.map Nat.toUInt8).toArray.size ≤ sizeLine := by simpa [Str.length] using hsz
  rw [encode_ascii_tree, encodeRoad_ascii, encodeNarrow_clean _ _ _ _ (fun y hy => by have := h y hy; simp [asciiCodec]; omega) (by rw [e]; exact hs2), e]
  refine wpAny_bind (wpAny_bind (wpAny_pure ?_))
  refine (wpAny_mkBytes ?_ hs2)
  exact wpAny_pure ⟨_, rfl, hq _ _⟩
theorem decode_tree_utf8 {c : UInt8} {cs : List UInt8} {t u : Tok} : «bytes.decode» ⟨[.bytes (c :: cs).toArray t, .str (Str.ofString "utf-8") u], []⟩ = (mkStr (Str.ofString "utf-8") >>= fun _ => mkStr (Str.ofString "utf-8") >>= fun e => mkStr (Str.ofString "bytes.decode") >>= fun d =>
    call (.builtin "_codecs.decode.text") [.bytes (c :: cs).toArray t, e, .none, d] >>= fun v => ret v) := by kernel_rfl
theorem decode_tree_ascii {c : UInt8} {cs : List UInt8} {t u : Tok} : «bytes.decode» ⟨[.bytes (c :: cs).toArray t, .str (Str.ofString "ascii") u], []⟩ = (mkStr (Str.ofString "utf-8") >>= fun _ => mkStr (Str.ofString "ascii") >>= fun e => mkStr (Str.ofString "bytes.decode") >>= fun d =>
    call (.builtin "_codecs.decode.text") [.bytes (c :: cs).toArray t, e, .none, d] >>= fun v => ret v) := by kernel_rfl
theorem road_ascii {id : String} {b : Array UInt8} : decodeRoad id b (Str.ofString "ascii") none [] = (runDecoder id asciiDecoder none true b 0 [] >>= fun r => mkStr ⟨r.1⟩) := by kernel_rfl
theorem dec_loop {st : Faults} (body : Nat → Nat × Array Nat × Faults → Sem (ForInStep (Nat × Array Nat × Faults))) (f : Nat → List UInt8) (l : List Nat) (hlen : l.length ≤ sizeLine)
    (hstop : ∀ i p (out : Array Nat), (l.flatMap f).length ≤ p → out.size ≤ sizeLine → body i (p, out, st) = pure (.done (p, out, st)))
    (hgo : ∀ i pre c post (out : Array Nat), l = pre ++ c :: post → out.size ≤ sizeLine → body i ((pre.flatMap f).length, out, st) = pure (.yield (((pre ++ [c]).flatMap f).length, out ++ #[c], st))) :
    ∀ (post pre : List Nat), l = pre ++ post → ∀ n, post.length ≤ n → ∀ start, (forIn (List.range' start n) ((pre.flatMap f).length, pre.toArray, st) body : Sem _) = pure ((l.flatMap f).length, l.toArray, st)
  | [], pre, e, n, _, start => by
    have e' : l = pre := by simpa using e
    subst e'
    cases n with
    | zero => rfl
    | succ n =>
      rw [List.range'_succ, List.forIn_cons, hstop _ _ _ (Nat.le_refl _) (by simpa using hlen)]
      rfl
  | c :: post, pre, e, n, hn, start => by
    cases n with
    | zero => simp at hn
    | succ n =>
      have hp : pre.toArray.size ≤ sizeLine := by
        have := congrArg List.length e
        simp at this
        simp; omega
      rw [List.range'_succ, List.forIn_cons, hgo _ pre c post _ e hp]
      have ih := dec_loop body f l hlen hstop hgo post (pre ++ [c]) (by simpa using e) n (by simpa using hn) (start + 1)
      rw [← ih]
      simp
theorem flat_pos {f : Nat → List UInt8} {l : List Nat} (hf : ∀ c ∈ l, f c ≠ []) : l.length ≤ (l.flatMap f).length := by
  induction l with
  | nil => simp
  | cons c r ih =>
    have h1 := ih fun c hc => hf c (List.mem_cons_of_mem _ hc)
    have h2 : 0 < (f c).length := List.length_pos_iff.mpr (hf c (List.mem_cons_self ..))
    simp only [List.flatMap_cons, List.length_append, List.length_cons]
    omega
theorem runDecoder_clean (id : String) (d : Decoder) (f : Nat → List UInt8) (l : List Nat) (hlen : l.length ≤ sizeLine) (hf : ∀ c ∈ l, f c ≠ [])
    (hd : ∀ pre c post, l = pre ++ c :: post → d.find true (l.flatMap f).toArray (pre.flatMap f).length = .text [c] ((pre ++ [c]).flatMap f).length) :
    runDecoder id d none true (l.flatMap f).toArray 0 [] = pure (l.toArray, (l.flatMap f).length) := by
  unfold runDecoder
  simp only [Std.Legacy.Range.forIn_eq_forIn_range', Std.Legacy.Range.size]
  have hsz : ((l.flatMap f).toArray.size - 0 + 1 - 1) / 1 = (l.flatMap f).length := by simp
  rw [hsz]
  refine (congrArg (· >>= _) (dec_loop (st := {}) _ f l hlen ?_ ?_ l [] rfl _ (flat_pos hf) 0)).trans ?_
  · intro i p out h1 h2
    have g : ¬ out.size > sizeLine := by omega
    have g2 : p ≥ (l.flatMap f).toArray.size := by simpa using h1
    simp only [if_neg g, if_pos g2]
  · intro i pre c post out e h2
    have g : ¬ out.size > sizeLine := by omega
    have g2 : ¬ (pre.flatMap f).length ≥ (l.flatMap f).toArray.size := by
      have h0 : 0 < (f c).length := List.length_pos_iff.mpr (hf c (by rw [e]; simp))
      have h3 : (l.flatMap f).length = (pre.flatMap f).length + ((f c).length + (post.flatMap f).length) := by rw [e]; simp
      simp only [List.size_toArray]
      omega
    simp only [if_neg g, if_neg g2, hd pre c post e]
  · rfl
open PySem.Builtin PySem.Builtin._codecs
theorem u8 (n : Nat) (h : n < 256) : (n.toUInt8).toNat = n := by
  show (UInt8.ofNat n).toNat = n
  rw [UInt8.toNat_ofNat']; omega
noncomputable def okPoint (c : Nat) : Prop := c < 0x110000 ∧ (c < 0xD800 ∨ 0xE000 ≤ c)
theorem okPoint_sur {c : Nat} (h : okPoint c) : Str.isSurrogate c = false := by
  unfold okPoint at h
  unfold Str.isSurrogate
  rcases h with ⟨h1, h2⟩
  rcases Nat.lt_or_ge c 0xD800 with h3 | h3
  · have : ¬ 0xD800 ≤ c := by omega
    simp [this]
  · have : ¬ c ≤ 0xDFFF := by omega
    simp [this]
theorem t64 {y : Nat} : (0x80 + y % 64) % 64 = y % 64 := by omega
theorem r80 {y : Nat} : (decide (0x80 ≤ 0x80 + y % 64) && decide (0x80 + y % 64 ≤ 0xBF)) = true := by
  have h : y % 64 < 64 := Nat.mod_lt _ (by decide)
  generalize y % 64 = z at h
  revert z
  decide +kernel
theorem m_8 : ∀ k, k < 5 → (0xF0 + k) % 8 = k := by decide
theorem m_16 : ∀ k, k < 16 → (0xE0 + k) % 16 = k := by decide
theorem m_32 : ∀ k, k < 32 → (0xC0 + k) % 32 = k := by decide
theorem v_2 (c : Nat) : c / 64 * 64 + c % 64 = c := by rw [Nat.mul_comm]; exact Nat.div_add_mod c 64
theorem v_3 (c : Nat) : (c / 4096 * 64 + c / 64 % 64) * 64 + c % 64 = c := by
  have h := v_2 (c / 64)
  rw [Nat.div_div_eq_div_mul] at h
  rw [h]; exact v_2 c
theorem v_4 (c : Nat) : ((c / 262144 * 64 + c / 4096 % 64) * 64 + c / 64 % 64) * 64 + c % 64 = c := by
  have h := v_3 (c / 64)
  rw [Nat.div_div_eq_div_mul, Nat.div_div_eq_div_mul] at h
  rw [h]; exact v_2 c
theorem utf8At_1 {b : Array UInt8} {p c : Nat} (h0 : (b.getD p 0).toNat = c) (hc : c < 0x80) : Bytes.utf8At b p = (.char c, p + 1) := by
  unfold Bytes.utf8At
  simp only [h0, hc, if_true]
theorem utf8At_2 {b : Array UInt8} {p c : Nat} {x1 : UInt8} (h0 : (b.getD p 0).toNat = 0xC0 + c / 64) (h1 : b[p + 1]? = some x1) (g1 : x1.toNat = 0x80 + c % 64) (hlo : 0x80 ≤ c) (hc : c < 0x800) : Bytes.utf8At b p = (.char c, p + 2) := by
  unfold Bytes.utf8At
  have a0 : ¬ 0xC0 + c / 64 < 0x80 := by omega
  have a1 : (decide (0xC2 ≤ 0xC0 + c / 64) && decide (0xC0 + c / 64 ≤ 0xDF)) = true := by simp; omega
  have a2 := @r80 c
  have e : (0xC0 + c / 64) % 32 * 64 + (0x80 + c % 64) % 64 = c := by rw [t64, m_32 _ (by omega)]; exact v_2 c
  simp only [h0, a0, a1, if_false, if_true]
  simp only [List.range, List.range.loop, List.map, List.foldl, Nat.zero_add, h1, g1, Except.bind, BEq.rfl, if_true, a2, e]
theorem utf8At_3 {b : Array UInt8} {p c : Nat} {x1 x2 : UInt8} (h0 : (b.getD p 0).toNat = 0xE0 + c / 4096) (h1 : b[p + 1]? = some x1) (g1 : x1.toNat = 0x80 + c / 64 % 64) (h2 : b[p + 2]? = some x2) (g2 : x2.toNat = 0x80 + c % 64)
    (hlo : 0x800 ≤ c) (hc : c < 0x10000) (hs : c < 0xD800 ∨ 0xE000 ≤ c) : Bytes.utf8At b p = (.char c, p + 3) := by
  unfold Bytes.utf8At
  dsimp only
  rw [h0, if_neg (show ¬ 0xE0 + c / 4096 < 0x80 by omega)]
  generalize hS : (if ((_ && _ : Bool) = true) then (_ : Option (Nat × Nat × Nat)) else _) = o
  obtain ⟨lo, hi, ho, hl, hh⟩ : ∃ lo hi, o = some (2, lo, hi) ∧ lo ≤ 0x80 + c / 64 % 64 ∧ 0x80 + c / 64 % 64 ≤ hi := by
    refine ⟨if c / 4096 = 0 then 0xA0 else 0x80, if c / 4096 = 13 then 0x9F else 0xBF, ?_, by split <;> omega, by split <;> omega⟩
    rw [← hS]
    have hk : c / 4096 < 16 := by omega
    clear hS h0 h1 g1 h2 g2 hlo hc hs
    generalize c / 4096 = k at hk ⊢
    revert k
    decide +kernel
  rw [ho]
  clear hS ho h0
  have a2 : (decide (lo ≤ 0x80 + c / 64 % 64) && decide (0x80 + c / 64 % 64 ≤ hi)) = true := by simp [hl, hh]
  have a5 := @r80 c
  have e : ((0xE0 + c / 4096) % 16 * 64 + (0x80 + c / 64 % 64) % 64) * 64 + (0x80 + c % 64) % 64 = c := by rw [t64, t64, m_16 _ (by omega)]; exact v_3 c
  simp only [List.range, List.range.loop, List.map, List.foldl, Nat.zero_add, h1, g1, h2, g2, Except.bind, BEq.rfl, if_true, a2, a5, e, show ((2 : Nat) == 1) = false from rfl, if_false, Bool.false_eq_true]
theorem utf8At_4 {b : Array UInt8} {p c : Nat} {x1 x2 x3 : UInt8} (h0 : (b.getD p 0).toNat = 0xF0 + c / 262144) (h1 : b[p + 1]? = some x1) (g1 : x1.toNat = 0x80 + c / 4096 % 64) (h2 : b[p + 2]? = some x2) (g2 : x2.toNat = 0x80 + c / 64 % 64)
    (h3 : b[p + 3]? = some x3) (g3 : x3.toNat = 0x80 + c % 64) (hlo : 0x10000 ≤ c) (hc : c < 0x110000) : Bytes.utf8At b p = (.char c, p + 4) := by
  unfold Bytes.utf8At
  dsimp only
  rw [h0, if_neg (show ¬ 0xF0 + c / 262144 < 0x80 by omega)]
  generalize hS : (if ((_ && _ : Bool) = true) then (_ : Option (Nat × Nat × Nat)) else _) = o
  obtain ⟨lo, hi, ho, hl, hh⟩ : ∃ lo hi, o = some (3, lo, hi) ∧ lo ≤ 0x80 + c / 4096 % 64 ∧ 0x80 + c / 4096 % 64 ≤ hi := by
    refine ⟨if c / 262144 = 0 then 0x90 else 0x80, if c / 262144 = 4 then 0x8F else 0xBF, ?_, by split <;> omega, by split <;> omega⟩
    rw [← hS]
    have hk : c / 262144 < 5 := by omega
    clear hS h0 h1 g1 h2 g2 h3 g3 hlo hc
    generalize c / 262144 = k at hk ⊢
    revert k
    decide +kernel
  rw [ho]
  clear hS ho h0
  have a2 : (decide (lo ≤ 0x80 + c / 4096 % 64) && decide (0x80 + c / 4096 % 64 ≤ hi)) = true := by simp [hl, hh]
  have a4 := @r80 (c / 64)
  have a5 := @r80 c
  have e : (((0xF0 + c / 262144) % 8 * 64 + (0x80 + c / 4096 % 64) % 64) * 64 + (0x80 + c / 64 % 64) % 64) * 64 + (0x80 + c % 64) % 64 = c := by rw [t64, t64, t64, m_8 _ (by omega)]; exact v_4 c
  simp only [List.range, List.range.loop, List.map, List.foldl, Nat.zero_add, h1, g1, h2, g2, h3, g3, Except.bind, BEq.rfl, if_true, a2, a4, a5, e, show ((2 : Nat) == 1) = false from rfl, show ((3 : Nat) == 1) = false from rfl, show ((3 : Nat) == 2) = false from rfl, if_false, Bool.false_eq_true]
theorem at_split {pre mid post : List UInt8} {k : Nat} : ((pre ++ (mid ++ post)).toArray)[pre.length + k]? = (mid ++ post)[k]? := by
  rw [List.getElem?_toArray, List.getElem?_append_right (by omega)]
  congr 1; omega
theorem getD_of_some {b : Array UInt8} {p : Nat} {x : UInt8} (h : b[p]? = some x) : b.getD p 0 = x := by
  rw [Array.getD_eq_getD_getElem?, h]; rfl
theorem lo6 {x : Nat} : 0x80 + x % 64 < 256 := Nat.lt_of_lt_of_le (Nat.add_lt_add_left (Nat.mod_lt x (by decide)) 0x80) (by decide)
theorem utf8_find {pre post : List UInt8} {c : Nat} (h : okPoint c) :
    utf8Decoder.find true (pre ++ (Str.utf8Of c ++ post)).toArray pre.length = .text [c] (pre.length + (Str.utf8Of c).length) := by
  show (match Bytes.utf8At (pre ++ (Str.utf8Of c ++ post)).toArray pre.length with
    | (.char c, nxt) => Found.char c nxt
    | (.bad _ stop reason, _) => _) = _
  obtain ⟨hc, hs⟩ := h
  unfold Str.utf8Of
  by_cases h1 : c < 0x80
  · simp only [if_pos h1]
    have e0 := @at_split pre [c.toUInt8] post 0
    rw [utf8At_1 (c := c) (by rw [getD_of_some (x := c.toUInt8) (by simpa using e0)]; exact u8 c (by omega)) h1]
    rfl
  · by_cases h2 : c < 0x800
    · simp only [if_neg h1, if_pos h2]
      have e0 := @at_split pre [(0xC0 + c / 64).toUInt8, (0x80 + c % 64).toUInt8] post 0
      have e1 := @at_split pre [(0xC0 + c / 64).toUInt8, (0x80 + c % 64).toUInt8] post 1
      rw [utf8At_2 (c := c) (x1 := (0x80 + c % 64).toUInt8) (by rw [getD_of_some (x := (0xC0 + c / 64).toUInt8) (by simpa using e0)]; exact u8 _ (by omega)) (by simpa using e1) (u8 _ lo6) (by omega) h2]
      rfl
    · by_cases h3 : c < 0x10000
      · simp only [if_neg h1, if_neg h2, if_pos h3]
        have e0 := @at_split pre [(0xE0 + c / 4096).toUInt8, (0x80 + c / 64 % 64).toUInt8, (0x80 + c % 64).toUInt8] post 0
        have e1 := @at_split pre [(0xE0 + c / 4096).toUInt8, (0x80 + c / 64 % 64).toUInt8, (0x80 + c % 64).toUInt8] post 1
        have e2 := @at_split pre [(0xE0 + c / 4096).toUInt8, (0x80 + c / 64 % 64).toUInt8, (0x80 + c % 64).toUInt8] post 2
        rw [utf8At_3 (c := c) (x1 := (0x80 + c / 64 % 64).toUInt8) (x2 := (0x80 + c % 64).toUInt8) (by rw [getD_of_some (x := (0xE0 + c / 4096).toUInt8) (by simpa using e0)]; exact u8 _ (by omega)) (by simpa using e1) (u8 _ lo6) (by simpa using e2) (u8 _ lo6) (by omega) h3 hs]
        rfl
      · simp only [if_neg h1, if_neg h2, if_neg h3]
        have e0 := @at_split pre [(0xF0 + c / 262144).toUInt8, (0x80 + c / 4096 % 64).toUInt8, (0x80 + c / 64 % 64).toUInt8, (0x80 + c % 64).toUInt8] post 0
        have e1 := @at_split pre [(0xF0 + c / 262144).toUInt8, (0x80 + c / 4096 % 64).toUInt8, (0x80 + c / 64 % 64).toUInt8, (0x80 + c % 64).toUInt8] post 1
        have e2 := @at_split pre [(0xF0 + c / 262144).toUInt8, (0x80 + c / 4096 % 64).toUInt8, (0x80 + c / 64 % 64).toUInt8, (0x80 + c % 64).toUInt8] post 2
        have e3 := @at_split pre [(0xF0 + c / 262144).toUInt8, (0x80 + c / 4096 % 64).toUInt8, (0x80 + c / 64 % 64).toUInt8, (0x80 + c % 64).toUInt8] post 3
        rw [utf8At_4 (c := c) (x1 := (0x80 + c / 4096 % 64).toUInt8) (x2 := (0x80 + c / 64 % 64).toUInt8) (x3 := (0x80 + c % 64).toUInt8) (by rw [getD_of_some (x := (0xF0 + c / 262144).toUInt8) (by simpa using e0)]; exact u8 _ (by omega)) (by simpa using e1) (u8 _ lo6) (by simpa using e2) (u8 _ lo6) (by simpa using e3) (u8 _ lo6) (by omega) hc]
        rfl
open PySem.Builtin PySem.Builtin._codecs
theorem args_decode_2 (a b : Value) : argsOk "bytes.decode" ⟨[a, b], []⟩ := by
  unfold argsOk; rw [signature?_of (id := "bytes.decode") (n := ['e', 'd', 'o', 'c', 'e', 'd']) (o := ['s', 'e', 't', 'y', 'b']) (by kernel_rfl) FB.owner_bytes]; kernel_rfl
theorem slot_translate : Slot "bytes" "translate" "bytes.translate" :=
  .of (owner := "bytes") (n := "translate") (by rw [typeLookup_type, builtinLookup_eq_fast]; kernel_rfl) (by decide +kernel) (by decide +kernel) (by decide +kernel)
    (by first | exact .inl (by decide +kernel) | exact .inr (by decide +kernel)) (by rw [isSubtype_type]; kernel_rfl)
theorem type_translate : typeOf (.builtin "bytes.translate") = pure (.type "method_descriptor") := by show builtinType _ = _; rw [builtinType_eq_fast]; kernel_rfl
theorem entry_translate : entryFor table "bytes.translate" = some Builtin.«bytes.translate» := entryFor_of_tree (by kernel_rfl)
theorem args_translate_2 (a b : Value) : argsOk "bytes.translate" ⟨[a, b], []⟩ := by
  unfold argsOk; rw [signature?_of (id := "bytes.translate") (n := ['e', 't', 'a', 'l', 's', 'n', 'a', 'r', 't']) (o := ['s', 'e', 't', 'y', 'b']) (by kernel_rfl) FB.owner_bytes]; kernel_rfl
theorem utf8Of_ne (c : Nat) : Str.utf8Of c ≠ [] := by
  unfold Str.utf8Of
  split
  · simp
  · split
    · simp
    · split <;> simp
theorem utf8_run (id : String) (l : List Nat) (hok : ∀ c ∈ l, okPoint c) (hsz : l.length ≤ sizeLine) :
    runDecoder id utf8Decoder none true (utf8b l).toArray 0 [] = pure (l.toArray, (utf8b l).length) := by
  refine runDecoder_clean id utf8Decoder Str.utf8Of l hsz (fun c _ => utf8Of_ne c) ?_
  intro pre c post e
  have h := @utf8_find (pre.flatMap Str.utf8Of) (post.flatMap Str.utf8Of) c (hok c (by rw [e]; simp))
  have e1 : l.flatMap Str.utf8Of = pre.flatMap Str.utf8Of ++ (Str.utf8Of c ++ post.flatMap Str.utf8Of) := by rw [e]; simp
  rw [e1, h]
  simp
theorem ascii_run (id : String) (l : List Nat) (hok : ∀ c ∈ l, c < 128) (hsz : l.length ≤ sizeLine) :
    runDecoder id asciiDecoder none true (l.map Nat.toUInt8).toArray 0 [] = pure (l.toArray, l.length) := by
  have e : l.map Nat.toUInt8 = l.flatMap fun c => [c.toUInt8] := List.map_eq_flatMap ..
  have h := runDecoder_clean id asciiDecoder (fun c => [c.toUInt8]) l hsz (fun c _ => by simp) ?_
  · rw [e, h]
    congr 2
    rw [← e]; simp
  · intro pre c post e2
    have h1 : l.flatMap (fun c => [c.toUInt8]) = pre.map Nat.toUInt8 ++ ([c.toUInt8] ++ post.map Nat.toUInt8) := by rw [← e, e2]; simp
    have h2 : (pre.flatMap fun c => [c.toUInt8]).length = (pre.map Nat.toUInt8).length := by rw [List.map_eq_flatMap]
    have h3 : ((pre ++ [c]).flatMap fun c => [c.toUInt8]).length = (pre.map Nat.toUInt8).length + 1 := by rw [← List.map_eq_flatMap]; simp
    rw [h1, h2, h3]
    have e0 := @at_split (pre.map Nat.toUInt8) [c.toUInt8] (post.map Nat.toUInt8) 0
    have hc := hok c (by rw [e2]; simp)
    have g : ((pre.map Nat.toUInt8 ++ ([c.toUInt8] ++ post.map Nat.toUInt8)).toArray.getD (pre.map Nat.toUInt8).length 0).toNat = c := by
      rw [getD_of_some (x := c.toUInt8) (by simpa using e0)]; exact u8 c (by omega)
    show (if _ < 128 then _ else _) = _
    rw [g, if_pos hc]
    rfl
theorem meets_text_ascii {b : Array UInt8} {t t1 t2 : Tok} {d x : Str} {n : Nat} (hd : ∀ id, runDecoder id asciiDecoder none true b 0 [] = pure (x.cps, n)) :
    Meets («_codecs.decode.text» ⟨[.bytes b t, .str (Str.ofString "ascii") t1, .none, .str d t2], []⟩) (fun _ R s => x.length ≤ sizeLine ∧ R (.ok (.ret (.str x s.toks))) { s with toks := s.toks + 1 }) := by
  refine .of_wp fun prog w A R s hS => ?_
  obtain ⟨hsz, h⟩ := hS
  show wpAny _ _ (Bytes.bytesLike _ (.bytes b t) >>= fun r => _) _ _ s
  refine wpAny_bind (wpAny_of_eq KBd.like_eq ?_)
  refine wpAny_bind (wpAny_of_eq KBd.held_eq ?_)
  show wpAny _ _ (_codecs.decodeRoad _ b (Str.ofString "ascii") none [] >>= fun v => _) _ _ s
  rw [road_ascii, hd]
  refine wpAny_bind (wpAny_bind (wpAny_pure ?_))
  exact wpAny_mkStr (wpAny_pure ⟨_, rfl, h⟩) hsz
theorem meets_decode_utf8 {c : UInt8} {cs : List UInt8} {t u : Tok} {x : Str} {n : Nat} (hd : ∀ id, runDecoder id utf8Decoder none true (c :: cs).toArray 0 [] = pure (x.cps, n)) :
    Meets («bytes.decode» ⟨[.bytes (c :: cs).toArray t, .str (Str.ofString "utf-8") u], []⟩) (fun _ R s => x.length ≤ sizeLine ∧ ∀ t' k, R (.ok (.ret (.str x t'))) { s with toks := k }) := by
  refine .of_wp fun prog w A R s hS => ?_
  obtain ⟨hsz, h⟩ := hS
  rw [decode_tree_utf8]
  refine wpAny_bind (wpAny_mkStr ?_ (by decide))
  refine wpAny_bind (wpAny_mkStr ?_ (by decide))
  refine wpAny_bind (wpAny_mkStr ?_ (by decide))
  exact wpAny_bind (call_function_meets KBd.kind_text KBd.plain_text KBd.entry_text (KBd.args_text _ _ _ _) (KBd.meets_text hd) ⟨hsz, wpAny_pure ⟨_, rfl, h _ _⟩⟩)
theorem meets_decode_ascii {c : UInt8} {cs : List UInt8} {t u : Tok} {x : Str} {n : Nat} (hd : ∀ id, runDecoder id asciiDecoder none true (c :: cs).toArray 0 [] = pure (x.cps, n)) :
    Meets («bytes.decode» ⟨[.bytes (c :: cs).toArray t, .str (Str.ofString "ascii") u], []⟩) (fun _ R s => x.length ≤ sizeLine ∧ ∀ t' k, R (.ok (.ret (.str x t'))) { s with toks := k }) := by
  refine .of_wp fun prog w A R s hS => ?_
  obtain ⟨hsz, h⟩ := hS
  rw [decode_tree_ascii]
  refine wpAny_bind (wpAny_mkStr ?_ (by decide))
  refine wpAny_bind (wpAny_mkStr ?_ (by decide))
  refine wpAny_bind (wpAny_mkStr ?_ (by decide))
  exact wpAny_bind (call_function_meets KBd.kind_text KBd.plain_text KBd.entry_text (KBd.args_text _ _ _ _) (meets_text_ascii hd) ⟨hsz, wpAny_pure ⟨_, rfl, h _ _⟩⟩)
section
variable {prog : Program} {w : World} {A : Around} {E : Value → Shared → Prop} {s : Shared} {t u : Tok} {Q : Value → Shared → Prop}
theorem call_decode_utf8 {b : Array UInt8} {l : List Nat} (e : b = (utf8b l).toArray) (hne : l ≠ []) (hok : ∀ c ∈ l, okPoint c) (hsz : l.length ≤ 16777216) (h : ∀ t' k, Q (.str ⟨l.toArray⟩ t') { s with toks := k }) :
    wpAny (model prog w) A (call (.builtin "bytes.decode") [.bytes b t, .str (Str.ofString "utf-8") u]) Q E s := by
  subst e
  have hsz' : l.length ≤ sizeLine := by rw [sizeLine_eq]; exact hsz
  have hn : utf8b l ≠ [] := by
    cases l with
    | nil => exact absurd rfl hne
    | cons c r =>
      intro z
      have z' : Str.utf8Of c ++ utf8b r = [] := z
      exact utf8Of_ne c (List.append_eq_nil_iff.mp z').1
  have hr := fun id => utf8_run id l hok hsz'
  cases hb : utf8b l with
  | nil => exact absurd hb hn
  | cons c0 cs =>
    rw [hb] at hr
    exact call_meets FB.slot_bytes_decode (typeIs_bytes _ _ _) FB.entry_bytes_decode (args_decode_2 _ _) (meets_decode_utf8 (x := ⟨l.toArray⟩) hr) ⟨by simpa [Str.length] using hsz', h⟩
theorem call_decode_ascii {b : Array UInt8} {l : List Nat} (e : b = (l.map Nat.toUInt8).toArray) (hne : l ≠ []) (hok : ∀ c ∈ l, c < 128) (hsz : l.length ≤ 16777216) (h : ∀ t' k, Q (.str ⟨l.toArray⟩ t') { s with toks := k }) :
    wpAny (model prog w) A (call (.builtin "bytes.decode") [.bytes b t, .str (Str.ofString "ascii") u]) Q E s := by
  subst e
  have hsz' : l.length ≤ sizeLine := by rw [sizeLine_eq]; exact hsz
  have hr := fun id => ascii_run id l hok hsz'
  cases l with
  | nil => exact absurd rfl hne
  | cons c0 cs =>
    exact call_meets FB.slot_bytes_decode (typeIs_bytes _ _ _) FB.entry_bytes_decode (args_decode_2 _ _) (meets_decode_ascii (x := ⟨(c0 :: cs).toArray⟩) hr) ⟨by simpa [Str.length] using hsz', h⟩
theorem call_encode_utf8 {x : Str} (hok : ∀ c ∈ x.cps.toList, okPoint c) (hsz : (utf8b x.cps.toList).length ≤ 16777216) (h : ∀ t' k, Q (.bytes (utf8b x.cps.toList).toArray t') { s with toks := k }) :
    wpAny (model prog w) A (call (.builtin "str.encode") [.str x t, .str (Str.ofString "utf-8") u]) Q E s :=
  call_meets F.slot_str_encode rfl F.entry_str_encode (F.args_str_encode_2 _ _) (meets_encode_utf8 x t u fun y hy => okPoint_sur (hok y hy)) ⟨by rw [sizeLine_eq]; exact hsz, h⟩
theorem call_encode_ascii {x : Str} (hok : ∀ c ∈ x.cps.toList, c < 128) (hsz : x.length ≤ 16777216) (h : ∀ t' k, Q (.bytes (x.cps.toList.map Nat.toUInt8).toArray t') { s with toks := k }) :
    wpAny (model prog w) A (call (.builtin "str.encode") [.str x t, .str (Str.ofString "ascii") u]) Q E s :=
  call_meets F.slot_str_encode rfl F.entry_str_encode (F.args_str_encode_2 _ _) (meets_encode_ascii x t u hok) ⟨by rw [sizeLine_eq]; exact hsz, h⟩
end
theorem translate_eq (b T : Array UInt8) (t u : Tok) (hT : T.size = 256) : «bytes.translate» ⟨[.bytes b t, .bytes T u], []⟩ =
    (if (b.map (fun c => T.getD c.toNat c) == b) = true then (do rule "bytes.translate.unchanged"; let v ← Bytes.Kind.bytes.same (.bytes b t); ret v) else (do let v ← Bytes.Kind.bytes.new (b.map fun c => T.getD c.toNat c); ret v)) := by
  unfold «bytes.translate» Bytes.translateM
  have h2 : ¬ ([Value.bytes T u].length + ([] : List (Str × Value)).length > 2) := by simp
  have h3 : (Value.bytes T u == Value.none) = false := rfl
  have h4 : (T.size != 256) = false := by rw [hT]; rfl
  have h5 : Bytes.payload (Value.bytes b t) = pure b := rfl
  have h6 : b.filter (fun x => !(#[] : Array UInt8).contains x) = b := by simp
  have h7 : (([] : List Value).head? <|> Option.map (fun (x : Str × Value) => x.snd) ([] : List (Str × Value)).head?) = none := rfl
  simp only [Bytes.Kind.name, KBd.like_eq, if_neg h2, List.any_nil, Bool.false_eq_true, if_false, h3, h4, h7, pure_bind, h5, h6]
  rfl
theorem call_translate {prog : Program} {w : World} {A : Around} {E : Value → Shared → Prop} {s : Shared} {b T : Array UInt8} {t u : Tok} {Q : Value → Shared → Prop} (hT : T.size = 256) (hsz : b.size ≤ 16777216)
    (h : ∀ t' k, Q (.bytes (b.map fun c => T.getD c.toNat c) t') { s with toks := k }) : wpAny (model prog w) A (call (.builtin "bytes.translate") [.bytes b t, .bytes T u]) Q E s := by
  have M : Meets («bytes.translate» ⟨[.bytes b t, .bytes T u], []⟩) (fun _ R s => ∀ t' k, R (.ok (.ret (.bytes (b.map fun c => T.getD c.toNat c) t'))) { s with toks := k }) := by
    refine .of_wp fun prog w A R s hq => ?_
    rw [translate_eq b T t u hT]
    split
    · rename_i he
      have he' : b.map (fun c => T.getD c.toNat c) = b := by simpa using he
      have hv := hq t s.toks
      rw [he'] at hv
      refine wpAny_bind (wpAny_rule ?_)
      refine wpAny_bind (wpAny_of_eq (show Bytes.Kind.bytes.same (.bytes b t) = pure (.bytes b t) from rfl) ?_)
      exact wpAny_pure ⟨_, rfl, hv⟩
    · refine wpAny_bind (wpAny_mkBytes ?_ (by rw [sizeLine_eq]; simpa using hsz))
      exact wpAny_pure ⟨_, rfl, hq _ _⟩
  exact call_meets slot_translate (typeIs_bytes _ _ _) entry_translate (args_translate_2 _ _) M h
theorem method_translate {A : Around} {E : Value → Shared → Prop} {s : Shared} {M : Model} {b : Array UInt8} {t : Tok} {pl : Sem Bool} {Q : Value × List Value → Shared → Prop} (h : Q (.builtin "bytes.translate", [.bytes b t]) s) : wpAny M A (getMethod (.bytes b t) "translate" pl) Q E s := by
  with_reducible exact KBd.method_of (.bytes b t) (typeIs_bytes _ _ _) slot_translate type_translate KBd.noRef h
/-- as Spec, where a token has been given out before -/
noncomputable abbrev SpecT (k : Nat) (w : World) (mean : ExcName → Option Value) (mg mb : Str → Option Value) (f : Addr) (vs : List Value) (kw : List (Str × Value)) (R : Tok → Value) : Prop :=
  ∀ (news : List (Addr × Obj)) (dp un : Nat) (gd : Option (List Code)) (cn : Str) (cs : Scope) (a : Addr) (ccd : Value) (cl : List (Str × Addr)) (outer : List Env) (A₀ : Around) (base h₀ : Heap) (L : Addr) (m : Str → Option Value) (s : Shared) (Q E : Value → Shared → Prop),
    1 ≤ s.toks → Below A₀ base outer h₀ → Fr h₀ L s.heap m → (hd.heap_39 w.params).In h₀ → News h₀ L s.heap news → Top hd.view_39 LS mean mg mb h₀ → cs.kind = .function →
    dp + k < recursionLimit → un + 8 * k < cLine → CbRet h₀ L m news s Q R →
      wpAny (model PR w) (ktrTop dp un gd cn cs L a ccd cl outer) (call (.ref f) vs kw) Q E s
section
variable {k : Nat} {w : World} {mean : ExcName → Option Value} {mg mb : Str → Option Value} {f : Addr} {vs : List Value} {kw : List (Str × Value)} {R : Tok → Value}
  {news : List (Addr × Obj)} {dp un : Nat} {gd : Option (List Code)} {cn : Str} {cs : Scope} {a : Addr} {ccd : Value} {cl : List (Str × Addr)} {outer : List Env} {A₀ : Around} {base h₀ : Heap} {L : Addr} {m : Str → Option Value} {s : Shared} {Q E : Value → Shared → Prop}
theorem useT (S : SpecT k w mean mg mb f vs kw R) (ht : 1 ≤ s.toks) (B : Below A₀ base outer h₀) (F : Fr h₀ L s.heap m) (X : (hd.heap_39 w.params).In h₀) (N : News h₀ L s.heap news) (T : Top hd.view_39 LS mean mg mb h₀) (hk : cs.kind = .function) (hd : dp + k < recursionLimit) (hu : un + 8 * k < cLine)
    (ret : ∀ (t : Tok) (h' : Heap) (tk' : Nat), 1 ≤ tk' → Fr h₀ L h' m → News h₀ L h' news → Q (R t) { s with heap := h', toks := tk' }) :
    wpAny (model PR w) (ktrTop dp un gd cn cs L a ccd cl outer) (call (.ref f) vs kw) Q E s := by
  have h := S news dp un gd cn cs a ccd cl outer A₀ base h₀ L m s (fun v s' => ∃ t h' tk', v = R t ∧ s' = { s with heap := h', toks := tk' } ∧ Fr h₀ L h' m ∧ News h₀ L h' news) E ht B F X N T hk hd hu (fun t h' tk' F' N' => ⟨t, h', tk', rfl, rfl, F', N'⟩)
  refine wpAny_mono (wpAny_toks_of ht h) (fun v s' q => ?_) fun e s' q => q.2
  obtain ⟨hn, t, h', tk', rfl, rfl, F', N'⟩ := q
  exact ret t h' tk' hn F' N'
theorem useM (S : Spec k w mean mg mb f vs kw R) (ht : 1 ≤ s.toks) (B : Below A₀ base outer h₀) (F : Fr h₀ L s.heap m) (X : (hd.heap_39 w.params).In h₀) (N : News h₀ L s.heap news) (T : Top hd.view_39 LS mean mg mb h₀) (hk : cs.kind = .function) (hd : dp + k < recursionLimit) (hu : un + 8 * k < cLine)
    (ret : ∀ (t : Tok) (h' : Heap) (tk' : Nat), 1 ≤ tk' → Fr h₀ L h' m → News h₀ L h' news → Q (R t) { s with heap := h', toks := tk' }) :
    wpAny (model PR w) (ktrTop dp un gd cn cs L a ccd cl outer) (call (.ref f) vs kw) Q E s :=
  useT (fun news dp un gd cn cs a ccd cl outer A₀ base h₀ L m s Q E _ => S news dp un gd cn cs a ccd cl outer A₀ base h₀ L m s Q E) ht B F X N T hk hd hu ret
end
theorem toks_gen {α : Type} {M : Model} {A : Around} {t : Sem α} {Q : α → Shared → Prop} {E : Value → Shared → Prop} {h : Heap} {g : Array GenState} {d : Drawn} {x : Nat} {os : OsState} (hx : 1 ≤ x) (k : ∀ tk : Nat, 1 ≤ tk → wpAny M A t Q E ⟨h, g, d, tk, os⟩) : wpAny M A t Q E ⟨h, g, d, x, os⟩ := k x hx
/-- every sign c has become z -/
noncomputable def rep1 (c : Nat) (z l : List Nat) : List Nat := l.flatMap fun d => if d = c then z else [d]
theorem rep1_append (c : Nat) (z a b : List Nat) : rep1 c z (a ++ b) = rep1 c z a ++ rep1 c z b := by simp [rep1]
theorem rep1_free (c : Nat) (z : List Nat) : ∀ l : List Nat, c ∉ l → rep1 c z l = l
  | [], _ => rfl
  | d :: r, h => by
    have h1 : ¬ d = c := fun e => h (e ▸ List.mem_cons_self ..)
    have ih := rep1_free c z r fun m => h (List.mem_cons_of_mem _ m)
    show (if d = c then z else [d]) ++ rep1 c z r = _
    rw [if_neg h1, ih]; rfl
theorem rep1_join (c : Nat) (z : List Nat) : ∀ parts : List Str, (∀ p ∈ parts, c ∉ p.cps.toList) → rep1 c z (Str.join ⟨#[c]⟩ parts).cps.toList = (Str.join ⟨z.toArray⟩ parts).cps.toList
  | [], _ => rfl
  | [p], h => rep1_free c z _ (h p (List.mem_singleton.mpr rfl))
  | p :: q :: r, h => by
    have ih := rep1_join c z (q :: r) fun a ha => h a (List.mem_cons_of_mem _ ha)
    show rep1 c z (p ++ ⟨#[c]⟩ ++ Str.join ⟨#[c]⟩ (q :: r)).cps.toList = (p ++ ⟨z.toArray⟩ ++ Str.join ⟨z.toArray⟩ (q :: r)).cps.toList
    simp only [Str.cps_append, Array.toList_append]
    rw [rep1_append, rep1_append, ih, rep1_free c z _ (h p (List.mem_cons_self ..))]
    congr 2
    simp [rep1]
theorem replace_rep1 (x : Str) (c : Nat) (z : List Nat) : Txt.replace x ⟨#[c]⟩ ⟨z.toArray⟩ = ⟨(rep1 c z x.cps.toList).toArray⟩ := by
  have h : (Txt.replace x ⟨#[c]⟩ ⟨z.toArray⟩).cps.toList = rep1 c z x.cps.toList := by
    rw [StrLaws.replace_one, ← rep1_join c z _ (StrLaws.split_free x c), StrLaws.join_split]
  exact StrLaws.mk_of_toList h
theorem rep1_len (c : Nat) (z l : List Nat) (hz : z.length ≤ 6) : (rep1 c z l).length ≤ l.length * 6 := by
  induction l with
  | nil => simp [rep1]
  | cons d r ih =>
    have e : rep1 c z (d :: r) = (if d = c then z else [d]) ++ rep1 c z r := rfl
    rw [e, List.length_append, List.length_cons]
    by_cases h : d = c
    · rw [if_pos h]; omega
    · rw [if_neg h]; simp only [List.length_singleton]; omega
theorem call_replace1 {prog : Program} {w : World} {A : Around} {E : Value → Shared → Prop} {s : Shared} {l : List Nat} {y z' : Str} {t u v : Tok} {Q : Value → Shared → Prop} (c : Nat) (z : List Nat) (hy : y = ⟨#[c]⟩) (hz : z' = ⟨z.toArray⟩) (hne : (y == z') = false) (hzl : z.length ≤ 6)
    (hu : @LE.le Nat _ 1 u) (hv : @LE.le Nat _ 1 v) (huv : @LT.lt Nat _ u v) (hx : l.length ≤ 1048576) (hs : 1 ≤ s.toks)
    (h : ∀ t' k, 1 ≤ k → (rep1 c z l).length ≤ l.length * 6 → Q (.str ⟨(rep1 c z l).toArray⟩ t') { s with toks := k }) : wpAny (model prog w) A (call (.builtin "str.replace") [.str ⟨l.toArray⟩ t, .str y u, .str z' v]) Q E s := by
  have b : wpAny (model prog w) A (call (.builtin "str.replace") [.str ⟨l.toArray⟩ t, .str y u, .str z' v]) (fun r s' => ∃ t' k, r = .str ⟨(rep1 c z l).toArray⟩ t' ∧ s' = { s with toks := k }) E s := by
    refine SC.replaceW (Nat.ne_of_gt hu) (Nat.ne_of_gt hv) (Nat.ne_of_lt huv) hne (by simpa [Str.length] using hx) (by rw [hz]; show z.toArray.size ≤ 14; simp; omega) ?_
    intro t' k
    rw [hy, hz, replace_rep1]
    exact ⟨t', k, rfl, rfl⟩
  refine wpAny_mono (wpAny_toks_of hs b) (fun r s' q => ?_) fun _ _ q => q.2
  obtain ⟨hn, t', k, rfl, rfl⟩ := q
  exact h t' k hn (rep1_len c z l hzl)
noncomputable def escL (q : Bool) (l : List Nat) : List Nat :=
  let l1 := rep1 38 [38, 97, 109, 112, 59] l
  let l2 := rep1 60 [38, 108, 116, 59] l1
  let l3 := rep1 62 [38, 103, 116, 59] l2
  if q then rep1 39 [38, 35, 120, 50, 55, 59] (rep1 34 [38, 113, 117, 111, 116, 59] l3) else l3
theorem method_encode {A : Around} {E : Value → Shared → Prop} {s : Shared} {M : Model} {x : Str} {t : Tok} {pl : Sem Bool} {Q : Value × List Value → Shared → Prop} (h : Q (.builtin "str.encode", [.str x t]) s) : wpAny M A (getMethod (.str x t) "encode" pl) Q E s :=
  getMethod_builtin (T := "str") rfl F.plainAttrs_str F.slot_str_encode F.type_str_encode (fun _ e => nomatch e) h
/-- greedy replacement of y by z, with fuel -/
noncomputable def rplF (y z : List Nat) : Nat → List Nat → List Nat
  | 0, l => l
  | _ + 1, [] => []
  | n + 1, c :: r => if (c :: r).take y.length = y then z ++ rplF y z n ((c :: r).drop y.length) else c :: rplF y z n r
noncomputable def rpl (y z l : List Nat) : List Nat := rplF y z l.length l
theorem rplF_miss {y z : List Nat} : ∀ (m n : Nat) (l : List Nat), m ≤ n → m ≤ l.length → (∀ k, k < m → (l.drop k).take y.length ≠ y) → rplF y z n l = l.take m ++ rplF y z (n - m) (l.drop m)
  | 0, n, l, _, _, _ => by simp
  | m + 1, n, l, hn, hl, h => by
    cases l with
    | nil => simp at hl
    | cons c r =>
      cases n with
      | zero => omega
      | succ n =>
        have h0 := h 0 (by omega)
        rw [List.drop_zero] at h0
        have ih := rplF_miss (y := y) (z := z) m n r (by omega) (by simpa using hl) (fun k hk => by have := h (k + 1) (by omega); simpa using this)
        show (if (c :: r).take y.length = y then z ++ rplF y z n ((c :: r).drop y.length) else c :: rplF y z n r) = _
        rw [if_neg h0, ih]
        simp
theorem rplF_none {y z : List Nat} (n : Nat) (l : List Nat) (hn : l.length ≤ n) (h : ∀ k, k < l.length → (l.drop k).take y.length ≠ y) : rplF y z n l = l := by
  rw [rplF_miss l.length n l hn (Nat.le_refl _) h]
  rw [List.drop_length, List.take_length]
  cases n - l.length <;> simp [rplF]
theorem rplF_hit {y z : List Nat} {n : Nat} {l : List Nat} (hy : y ≠ []) (hn : 1 ≤ n) (h : l.take y.length = y) : rplF y z n l = z ++ rplF y z (n - 1) (l.drop y.length) := by
  cases n with
  | zero => omega
  | succ n =>
    cases l with
    | nil => simp at h; exact absurd h.symm (by simpa using hy)
    | cons c r =>
      show (if (c :: r).take y.length = y then z ++ rplF y z n ((c :: r).drop y.length) else c :: rplF y z n r) = _
      rw [if_pos h]; rfl
theorem at_iff {x y : Str} {i : Nat} (hy : 1 ≤ y.length) : StrLaws.At x y x.length i ↔ (x.cps.toList.drop i).take y.length = y.cps.toList := by
  unfold StrLaws.At
  rw [StrLaws.subAt_eq]
  constructor
  · intro h
    exact eq_of_beq h.2
  · intro h
    refine ⟨?_, by rw [h]; exact BEq.rfl⟩
    have e := congrArg List.length h
    have hl : y.cps.toList.length = y.length := by simp [Str.length]
    have hx : x.cps.toList.length = x.length := by simp [Str.length]
    rw [List.length_take, List.length_drop, hl, hx] at e
    omega
theorem join_rpl (x y z : Str) (hy : 1 ≤ y.length) : ∀ (cuts : List Nat) (a f n : Nat), StrLaws.ChainG x y x.length a cuts f → (∀ k, f ≤ k → ¬ StrLaws.At x y x.length k) → a ≤ x.length → x.length ≤ n + a →
    (Str.join z (StrLaws.partsFrom x y.length a cuts)).cps.toList = rplF y.cps.toList z.cps.toList n (x.cps.toList.drop a)
  | [], a, f, n, h, hn, ha, hnn => by
    have e : f = a := h
    subst e
    have hx : x.cps.toList.length = x.length := by simp [Str.length]
    have hyl : y.cps.toList.length = y.length := by simp [Str.length]
    show (Builtin.Str.strSub x f x.length).cps.toList = _
    rw [StrLaws.strSub_toList, rplF_none]
    · exact List.take_of_length_le (by rw [List.length_drop, hx]; omega)
    · rw [List.length_drop, hx]; omega
    · intro k hk hm
      rw [hyl, List.drop_drop] at hm
      exact hn (f + k) (by omega) ((at_iff hy).mpr hm)
  | c :: r, a, f, n, h, hn, ha, hnn => by
    obtain ⟨h1, h2, h3, h4⟩ := h
    have hx : x.cps.toList.length = x.length := by simp [Str.length]
    have hyl : y.cps.toList.length = y.length := by simp [Str.length]
    have hne : y.cps.toList ≠ [] := by intro e; rw [e] at hyl; simp at hyl; omega
    have hc := h2.1
    obtain ⟨p, q, e⟩ := StrLaws.partsFrom_ne x y.length (c + y.length) r
    have ih := join_rpl x y z hy r (c + y.length) f (n - (c - a) - 1) h4 hn (by omega) (by omega)
    show (Str.join z (Builtin.Str.strSub x a c :: StrLaws.partsFrom x y.length (c + y.length) r)).cps.toList = _
    rw [e] at ih ⊢
    show (Builtin.Str.strSub x a c ++ z ++ Str.join z (p :: q)).cps.toList = _
    rw [Str.cps_append, Str.cps_append, Array.toList_append, Array.toList_append, ih, StrLaws.strSub_toList]
    rw [rplF_miss (c - a) n (x.cps.toList.drop a) (by omega) (by rw [List.length_drop, hx]; omega) ?_]
    · have hh := @rplF_hit y.cps.toList z.cps.toList (n - (c - a)) (x.cps.toList.drop c) hne (by omega) (by rw [hyl]; exact (at_iff hy).mp h2)
      rw [List.drop_drop, show a + (c - a) = c by omega, hh, List.drop_drop, hyl, List.append_assoc]
    · intro k hk hm
      rw [hyl, List.drop_drop] at hm
      exact h3 (a + k) (by omega) (by omega) ((at_iff hy).mpr hm)
theorem replace_rpl (l y z : List Nat) (hy : 1 ≤ y.length) : Txt.replace ⟨l.toArray⟩ ⟨y.toArray⟩ ⟨z.toArray⟩ = ⟨(rpl y z l).toArray⟩ := by
  have hy' : 1 ≤ (⟨y.toArray⟩ : Str).length := by simpa [Str.length] using hy
  obtain ⟨f, hG, hn⟩ := StrLaws.occ_tight ⟨l.toArray⟩ ⟨y.toArray⟩ hy'
  have key := join_rpl ⟨l.toArray⟩ ⟨y.toArray⟩ ⟨z.toArray⟩ hy' _ 0 f l.length hG hn (Nat.zero_le _) (by simp [Str.length])
  have e0 : ((⟨l.toArray⟩ : Str).cps.toList.drop 0) = l := by simp
  rw [e0] at key
  refine StrLaws.mk_of_toList ?_
  rw [show rpl y z l = rplF y z l.length l from rfl]
  unfold Txt.replace
  have h10 : ((⟨y.toArray⟩ : Str).length == 0) = false := by simp [Str.length]; intro e; rw [e] at hy; simp at hy
  rw [h10, Bool.false_and, Bool.or_false]
  cases he : (Builtin.Str.occurrences ⟨l.toArray⟩ ⟨y.toArray⟩ 0 (⟨l.toArray⟩ : Str).length ((⟨l.toArray⟩ : Str).length + 1)).isEmpty
  · rw [if_neg Bool.false_ne_true, StrLaws.glued_eq_join, StrLaws.partsBetween_eq]
    exact key
  · rw [if_pos rfl]
    rw [List.isEmpty_iff.mp he] at key
    rw [← key]
    show _ = (Builtin.Str.strSub _ 0 _).cps.toList
    rw [StrLaws.sub_whole]
theorem rplF_len {y z : List Nat} (hz : z.length ≤ y.length) : ∀ (n : Nat) (l : List Nat), (rplF y z n l).length ≤ l.length
  | 0, l => Nat.le_refl _
  | n + 1, [] => Nat.le_refl _
  | n + 1, c :: r => by
    show (if (c :: r).take y.length = y then z ++ rplF y z n ((c :: r).drop y.length) else c :: rplF y z n r).length ≤ _
    split
    · rename_i h
      have e := congrArg List.length h
      rw [List.length_take] at e
      have ih := rplF_len hz n ((c :: r).drop y.length)
      rw [List.length_append]
      rw [List.length_drop] at ih
      omega
    · have ih := rplF_len hz n r
      simp only [List.length_cons]; omega
theorem rpl_len {y z : List Nat} (hz : z.length ≤ y.length) (l : List Nat) : (rpl y z l).length ≤ l.length := rplF_len hz _ _
theorem call_replaceG {prog : Program} {w : World} {A : Around} {E : Value → Shared → Prop} {s : Shared} {l : List Nat} {y' z' : Str} {t u v : Tok} {Q : Value → Shared → Prop} (y z : List Nat) (hy : y' = ⟨y.toArray⟩) (hz : z' = ⟨z.toArray⟩) (hne : (y' == z') = false) (hyl : 1 ≤ y.length) (hzy : z.length ≤ y.length) (hzl : z.length ≤ 6)
    (hu : @LE.le Nat _ 1 u) (hv : @LE.le Nat _ 1 v) (huv : @LT.lt Nat _ u v) (hx : l.length ≤ 1048576) (hs : 1 ≤ s.toks)
    (h : ∀ t' k, 1 ≤ k → (rpl y z l).length ≤ l.length → Q (.str ⟨(rpl y z l).toArray⟩ t') { s with toks := k }) : wpAny (model prog w) A (call (.builtin "str.replace") [.str ⟨l.toArray⟩ t, .str y' u, .str z' v]) Q E s := by
  have b : wpAny (model prog w) A (call (.builtin "str.replace") [.str ⟨l.toArray⟩ t, .str y' u, .str z' v]) (fun r s' => ∃ t' k, r = .str ⟨(rpl y z l).toArray⟩ t' ∧ s' = { s with toks := k }) E s := by
    refine SC.replaceW (Nat.ne_of_gt hu) (Nat.ne_of_gt hv) (Nat.ne_of_lt huv) hne (by simpa [Str.length] using hx) (by rw [hz]; show z.toArray.size ≤ 14; simp; omega) ?_
    intro t' k
    rw [hy, hz, replace_rpl _ _ _ hyl]
    exact ⟨t', k, rfl, rfl⟩
  refine wpAny_mono (wpAny_toks_of hs b) (fun r s' q => ?_) fun _ _ q => q.2
  obtain ⟨hn, t', k, rfl, rfl⟩ := q
  exact h t' k hn (rpl_len hzy l)
/-- the text with its five references put back -/
noncomputable def putBackL (l : List Nat) : List Nat :=
  rpl [38, 97, 109, 112, 59] [38] (rpl [38, 35, 120, 50, 55, 59] [39] (rpl [38, 113, 117, 111, 116, 59] [34] (rpl [38, 103, 116, 59] [62] (rpl [38, 108, 116, 59] [60] l))))
theorem call_replaceH {prog : Program} {w : World} {A : Around} {E : Value → Shared → Prop} {s : Shared} {l : List Nat} {y' z' : Str} {t u v : Tok} {Q : Value → Shared → Prop} (y z : List Nat) (hy : y' = ⟨y.toArray⟩) (hz : z' = ⟨z.toArray⟩) (hne : (y' == z') = false) (hyl : 1 ≤ y.length) (hzy : z.length ≤ y.length) (hzl : z.length ≤ 6)
    (hu : @LE.le Nat _ 1 u) (hv : @LE.le Nat _ 1 v) (huv : @LT.lt Nat _ u v) (hx : l.length ≤ 1048576)
    (h : ∀ t' k, (rpl y z l).length ≤ l.length → Q (.str ⟨(rpl y z l).toArray⟩ t') { s with toks := k }) : wpAny (model prog w) A (call (.builtin "str.replace") [.str ⟨l.toArray⟩ t, .str y' u, .str z' v]) Q E s := by
  refine SC.replaceW (Nat.ne_of_gt hu) (Nat.ne_of_gt hv) (Nat.ne_of_lt huv) hne (by simpa [Str.length] using hx) (by rw [hz]; show z.toArray.size ≤ 14; simp; omega) ?_
  intro t' k
  rw [hy, hz, replace_rpl _ _ _ hyl]
  exact h t' k (rpl_len hzy l)
theorem occ_one (l : List Nat) (n : Nat) : (Builtin.Str.occurrences ⟨l.toArray⟩ ⟨#[n]⟩ 0 (⟨l.toArray⟩ : Str).length 1).isEmpty = decide (n ∉ l) := by
  rcases StrLaws.occ_head ⟨l.toArray⟩ ⟨#[n]⟩ 1 (Nat.le_refl 1) with ⟨h, hn⟩ | ⟨i, r, h, hA, -⟩
  · rw [h]
    refine (decide_eq_true ?_).symm
    intro hm
    obtain ⟨j, hj⟩ := List.getElem?_of_mem hm
    exact hn j ((StrLaws.subAt_one _ n j).mpr (by simpa using hj))
  · rw [h]
    refine (decide_eq_false ?_).symm
    intro hm
    have e := (StrLaws.subAt_one _ n i).mp hA
    exact hm (List.mem_of_getElem? (by simpa using e))
theorem occ_lt (n : Nat) : (Builtin.Str.occurrences (Str.ofString "<>") ⟨#[n]⟩ 0 (Str.ofString "<>").length 1).isEmpty = decide (¬ (n = 60 ∨ n = 62)) := by
  have h := occ_one [60, 62] n
  have e : (Str.ofString "<>") = ⟨[60, 62].toArray⟩ := by decide
  rw [e, h]; simp
theorem occ_qu (n : Nat) : (Builtin.Str.occurrences (Str.ofString "\"'") ⟨#[n]⟩ 0 (Str.ofString "\"'").length 1).isEmpty = decide (¬ (n = 34 ∨ n = 39)) := by
  have h := occ_one [34, 39] n
  have e : (Str.ofString "\"'") = ⟨[34, 39].toArray⟩ := by decide
  rw [e, h]; simp
theorem eq_one (n c : Nat) : ((⟨#[n]⟩ : Str) == ⟨#[c]⟩) = decide (n = c) := by
  by_cases h : n = c
  · subst h; simp
  · have h2 : ¬ ((⟨#[n]⟩ : Str) = ⟨#[c]⟩) := by intro e; injection e with e; simp at e; exact h e
    rw [decide_eq_false h]
    exact beq_false_of_ne h2
theorem eq_amp (n : Nat) : ((⟨#[n]⟩ : Str) == Str.ofString "&") = decide (n = 38) := by
  have e : (Str.ofString "&") = ⟨#[38]⟩ := by decide
  rw [e]; exact eq_one n 38
theorem extend_small {prog : Program} {w : World} {A : Around} {E : Value → Shared → Prop} {s : Shared} {h₀ : Heap} {L D b : Addr} {m : Str → Option Value} {news news' : List (Addr × Obj)} {n n2 : Nat} {vs us : List Value} {Q : Value → Shared → Prop}
    (F : Fr h₀ L s.heap m) (N : News h₀ L s.heap news) (hb : (b, listOf us.toArray n2) ∈ news) (hne : us.length ≠ 0)
    (U : Upd D (listOf vs.toArray n) (listOf (vs ++ us).toArray (n + 1)) news news') (hv : vs.length ≤ 1000000) (hu : us.length ≤ 1000000)
    (h : ∀ h', Fr h₀ L h' m → News h₀ L h' news' → Q .none { s with heap := h' }) : wpAny (model prog w) A (call (.builtin "list.extend") [.ref D, .ref b]) Q E s := by
  refine kl_extend F N hb rfl (by simpa using hne) (by simpa using U) ?_ (by rw [sizeLine_eq]; simp; omega) (by rw [sizeLine_eq]; simp; omega) h
  simp only [Bool.not_eq_true, Bool.and_eq_false_iff, Builtin.List.listTooLong, sizeLine_eq]
  right
  simp only [decide_eq_false_iff_not, List.size_toArray]
  omega
theorem codes_mem {l : List Nat} {pre post : List Int} {n : Nat} (h : KStt.codes ⟨l.toArray⟩ = pre ++ (n : Int) :: post) : n ∈ l := by
  have hm : (n : Int) ∈ KStt.codes ⟨l.toArray⟩ := by rw [h]; simp
  unfold KStt.codes at hm
  obtain ⟨c, hc, e⟩ := List.mem_map.mp hm
  have e' : c = n := by omega
  subst e'
  simpa using hc
theorem codes_toNat (l : List Nat) : (KStt.codes ⟨l.toArray⟩).map Int.toNat = l := by
  unfold KStt.codes
  rw [List.map_map]
  exact (List.map_congr_left (g := _root_.id) fun c _ => Int.toNat_natCast c).trans (List.map_id _)
theorem find_at (l : List Nat) (k c : Nat) (hk : l[k]? = some c) (hn : ∀ j, l[j]? = some c → j = k) : Txt.find ⟨l.toArray⟩ ⟨#[c]⟩ = (k : Int) := by
  unfold Txt.find
  rcases StrLaws.occ_head ⟨l.toArray⟩ ⟨#[c]⟩ 1 (Nat.le_refl 1) with ⟨h, hno⟩ | ⟨i, r, h, hA, -⟩
  · exact absurd ((StrLaws.subAt_one ⟨l.toArray⟩ c k).mpr (by simpa using hk)) (hno k)
  · have e := (StrLaws.subAt_one ⟨l.toArray⟩ c i).mp hA
    have e2 := hn i (by simpa using e)
    subst e2
    rw [h]
theorem nodup_at {l : List Nat} (h : l.Nodup) {j k c : Nat} (hj : l[j]? = some c) (hk : l[k]? = some c) : j = k := by
  have h1 := (List.getElem?_eq_some_iff.mp hj)
  have h2 := (List.getElem?_eq_some_iff.mp hk)
  obtain ⟨p1, q1⟩ := h1
  obtain ⟨p2, q2⟩ := h2
  exact (List.getElem_inj h).mp (q1.trans q2.symm)
theorem item_at (l : List Nat) (i : Int) (c : Nat) (h0 : 0 ≤ i) (h : l[i.toNat]? = some c) : Txt.item ⟨l.toArray⟩ i = ⟨#[c]⟩ := by
  unfold Txt.item Txt.charAt
  rw [StrLaws.at_nonneg (n := c) h0 (by simpa using h)]
  rfl
theorem sum_ones {α : Type} : ∀ l : List α, (l.map fun _ => 1).sum = l.length
  | [] => rfl
  | a :: r => by
    have ih := sum_ones r
    rw [List.map_cons, List.sum_cons, List.length_cons, ih]; omega
theorem strs_pairs : ∀ {vs : List Value} {ys : List Str}, StrsAre vs ys → ∃ l : List (Str × Tok), vs = strValues l ∧ l.map (·.1) = ys
  | _, _, .nil => ⟨[], rfl, rfl⟩
  | _, _, .cons y t r => by
    obtain ⟨l, h1, h2⟩ := strs_pairs r
    exact ⟨(y, t) :: l, by rw [h1]; rfl, by rw [← h2]; rfl⟩
theorem call_join1 {prog : Program} {w : World} {A : Around} {E : Value → Shared → Prop} {s : Shared} {D : Addr} {vs : List Value} {l : List Nat} {x : Str} {t : Tok} {Q : Value → Shared → Prop} (hx : x = ⟨#[]⟩) (hD : s.heap.IsList D vs.toArray) (hs : StrsAre vs (l.map fun c => (⟨#[c]⟩ : Str))) (hl : l.length ≤ 1000)
    (h : ∀ t' k, Q (.str ⟨l.toArray⟩ t') { s with toks := k }) : wpAny (model prog w) A (call (.builtin "str.join") [.str x t, .ref D]) Q E s := by
  subst hx
  obtain ⟨ps, rfl, e⟩ := strs_pairs hs
  have hok : Builtin.Str.tooLong ((ps.map (·.1)).toArray.foldl (fun a p => a + p.length + (⟨#[]⟩ : Str).length) 0) = false := by
    rw [StrLaws.joinTotal, e]
    unfold Builtin.Str.tooLong
    rw [decide_eq_false_iff_not, sizeLine_eq]
    have h1 : ((l.map fun c => (⟨#[c]⟩ : Str)).map (·.length)).sum = l.length := by
      rw [List.map_map]
      have e1 : ((fun (y : Str) => y.length) ∘ fun c : Nat => (⟨#[c]⟩ : Str)) = fun _ => 1 := rfl
      rw [e1]
      exact sum_ones l
    rw [h1]
    simp [Str.length]
    omega
  refine call_meets F.slot_str_join (typeIs_str _ _ _) F.entry_str_join (F.args_str_join_2 _ _) (meets_str_join_list ⟨#[]⟩ t D ps hok) ⟨hD, post_join ps ⟨joinFit_length hok, ?_⟩⟩
  intro t' k
  have e2 : Txt.join ⟨#[]⟩ (ps.map (·.1)) = ⟨l.toArray⟩ := by
    rw [e]
    show Builtin.Str.glued _ _ = _
    rw [StrLaws.glued_eq_join]
    exact PyProof.Rows.join_ones l
  rw [e2]
  exact h t' k
section
variable {prog : Program} {w : World} {A : Around} {E : Value → Shared → Prop} {s : Shared} {h₀ : Heap} {L : Addr} {m : Str → Option Value} {env : Env}
theorem ListComp_text {elt iter : PySem.Expr} {x : Str} {px : Pos} {scope : Scope} {cl : List (Str × Addr)} {pos : Pos} {Q : Value → Shared → Prop} (_F₀ : Fr h₀ L s.heap m)
    (hclos : closureFor scope env = pure cl) (hcell : ∀ y ∈ scope.names, y.2 ≠ .cell) (hkind : scope.kind = .function)
    (hnames : ∀ y ∈ scope.names, y.2 = .local → scope.names.lookup y.1 = some .local) (hx : scope.names.lookup x = some .local)
    (h : wpAny (model prog w) A (eval iter env) (fun xv s₁ => ∃ t9 z t news, xv = Value.str z t ∧ t9 = t ∧ A.handled = none ∧ Fr h₀ L s₁.heap m ∧ News h₀ L s₁.heap news ∧ z.cps.size ≤ sizeLine ∧
      ∀ s₂ : Shared, (∃ g, s₂ = { s₁ with heap := g }) → LCg.CompRest prog w A h₀ L m env elt x scope cl s₂ (fun _ => True) (SignAt z) (LCg.FinE h₀ L m s₂ Q) z.cps.size 0 [] news) E s)
    (hs : ∀ x, foldedSetIterable iter env x = pure x) :
    wpAny (model prog w) A (eval (.ListComp elt [⟨.Name x px, iter, [], 0⟩] scope pos) env) Q E s := by
  rw [eval_ListComp]
  refine wpAny_comprehension_free (use := none) rfl hs hclos hkind hnames (wpAny_mono h (fun xv s₁ h₁ => ?_) fun _ _ e => e)
  obtain ⟨_, z, t, news, rfl, -, hh, F, N, hsz, R⟩ := h₁
  have go : ∀ (ty : String), Walks prog w A s₁.heap.objs.size [s₁.heap.objs.size] [s₁.heap.objs.size] z.cps.size (SignAt z) (fun i h => h.IsStrIter s₁.heap.objs.size ty z t i) → _ := fun ty W =>
    LCg.block_U (E := E) (s₂ := { s₁ with heap := s₁.heap.push { cls := .type ty, data := .fields #[.str z t, .int 0 0] } }) (S := fun _ => True) (elt := elt) (iter := iter) (px := px) (pos := pos) W hsz (fun i h st => by obtain ⟨o, e, _⟩ := st; exact ⟨o, e⟩)
      (fun i h h' o nw st e e' _ _ _ => by obtain ⟨o', q, r⟩ := st; rw [e] at q; cases q; exact ⟨o, e', r⟩) hcell hkind hx ⟨_, Heap.get?_push_size _ rfl, rfl, rfl⟩
      (fun b hb => by rw [List.mem_singleton.mp hb]; show s₁.heap.objs.size < (s₁.heap.push _).objs.size; rw [Heap.size_push]; exact Nat.lt_succ_self _)
      (F.keeps fun _ _ e => Heap.get?_push_of_some _ e) (N.grown fun _ _ e => Heap.get?_push_of_some _ e) (Nat.ne_of_lt F.ns.lt) (next_is_new F) (fun p hp => Nat.ne_of_lt (Heap.lt_size (N p hp).1)) trivial (R _ ⟨_, rfl⟩)
      (RR := compPost (model prog w) A E none Q) (by
        intro D C h tk m' ys news' F' N' o1 hn hC₀ hD₀ hCL hDL hCD offC fin
        refine ⟨m', hn, fun h'' hs'' => fin D h'' tk (F'.change hs'' hCL hC₀) (fun p hp => ?_) o1⟩
        refine ⟨hs''.extBut _ _ ?_ (N' p hp).1, (N' p hp).2⟩
        rcases List.mem_cons.mp hp with rfl | hp
        · exact Ne.symm hCD
        · exact offC p hp)
  cases ha : z.cps.all (· < 128)
  · exact wpAny_pyIter_wide ha (go "str_iterator" (Walks.strWide hh _ z t))
  · exact wpAny_pyIter_ascii ha (go "str_ascii_iterator" (Walks.strAscii hh _ z t))
theorem comp_signs {elt : PySem.Expr} {x : Str} {scope : Scope} {cl : List (Str × Addr)} {Fin : List Value → List (Addr × Obj) → Prop} {news : List (Addr × Obj)} (l : List Nat) (g : Nat → Nat)
    (turn : ∀ c t I oI C oC D m₂ ys h tk (E' : Value → Shared → Prop), c ∈ l → LCg.NsObj oC m₂ → m₂ x = some (.str ⟨#[c]⟩ t) → Fr h₀ L h m → News h₀ L h ((I, oI) :: (C, oC) :: (D, LCg.lst ys) :: news) →
      wpAny (model prog w) A (eval elt (compEnvC scope cl C env)) (fun y s' => ∃ h' tk' t', y = .str ⟨#[g c]⟩ t' ∧ s' = { s with heap := h', toks := tk' } ∧ Fr h₀ L h' m ∧ News h₀ L h' ((I, oI) :: (C, oC) :: (D, LCg.lst ys) :: news)) E' { s with heap := h, toks := tk })
    (fin : ∀ ys, StrsAre ys ((l.map g).map fun c => (⟨#[c]⟩ : Str)) → Fin ys news) : LCg.CompRest prog w A h₀ L m env elt x scope cl s (fun _ => True) (SignAt ⟨l.toArray⟩) Fin l.length 0 [] news := by
  have key : ∀ (j i : Nat) (ys : List Value), i + j = l.length → StrsAre ys (((l.take i).map g).map fun c => (⟨#[c]⟩ : Str)) → LCg.CompRest prog w A h₀ L m env elt x scope cl s (fun _ => True) (SignAt ⟨l.toArray⟩) Fin j i ys news := by
    intro j
    induction j with
    | zero =>
      intro i ys hi hy
      have e : i = l.length := by omega
      subst e
      rw [List.take_length] at hy
      exact LCg.CompRest.zero (fin ys hy)
    | succ j ih =>
      intro i ys hi hy
      refine LCg.CompRest.succ ?_
      intro v I oI C oC D m₂ h tk E' hv hC hx F N off ne
      obtain ⟨c, t, hc, rfl⟩ := hv
      have hc' : l[i]? = some c := by simpa using hc
      refine wpAny_mono (turn c t I oI C oC D m₂ ys h tk E' (List.mem_of_getElem? hc') hC hx F N) (fun y s₂ hq => ?_) fun _ _ e => e
      obtain ⟨h', tk', t', rfl, rfl, F', N'⟩ := hq
      refine ⟨h', tk', news, rfl, F', N', off, trivial, ?_⟩
      refine ih (i + 1) _ (by omega) ?_
      rw [List.take_add_one, hc']
      simpa using kct_snoc hy
  exact key l.length 0 [] (by omega) (by simp only [List.take_zero, List.map_nil]; exact .nil)
end
end
section
local macro_rules | `(tactic| walk_at "call ref") => `(tactic| k_extra "mine1")
local macro_rules | `(tactic| walk_at "call type:type") => `(tactic| k_extra "mine2")
local macro_rules | `(tactic| walk_at "call type:type") => `(tactic| k_extra "mine3")
local macro_rules | `(tactic| walk_at "call type:type") => `(tactic| k_extra "mine4")
local macro_rules | `(tactic| walk_at "compareOp Is") => `(tactic| k_extra "mine5")
local macro_rules | `(tactic| k_all) => `(tactic| exact all_ne_of_lt (by assumption))
local macro_rules | `(tactic| k_all) => `(tactic| (with_reducible refine all_ne_app ?_ ?_ <;> k_all))
local macro_rules | `(tactic| walk_at "subscriptTail") => `(tactic| k_extra "mine6")
local macro_rules | `(tactic| walk_at "call builtin:list.append") => `(tactic| k_extra "mine7")
local macro_rules | `(tactic| walk_at "InvEndN") => `(tactic| kst_close)
local macro_rules | `(tactic| walk_at "binaryOp LShift int int") => `(tactic| k_extra "mine8")
local macro_rules | `(tactic| ktn_open) => `(tactic| k_extra "mine9")
local macro_rules | `(tactic| walk_at "getMethod str") => `(tactic| (k_here; (with_reducible refine method_encode ?_)))
section
theorem b2a_spec {w : World} {mean : ExcName → Option Value} {mg mb : Str → Option Value} (b : Array UInt8) (t : Tok) (hb : b.size ≤ 1000) : Spec 2 w mean mg mb 86 [.bytes b t] [(Str.ofString "newline", .bool false)] (fun t => .bytes (byteArr (encInts (KBw.bInts b))) t) := by
  w_on
  dsimp only [Spec, PR]
  k_fill
  intro news dp un gd cn cs a ccd cl outer A₀ base h₀ L m s Q E hB hF hK hN hT hk hd hu hret
  dsimp only [CbRet] at hret
  k_with_none
  k_with "mine1" => (k_here; (with_reducible show wpAny _ _ (call (Value.ref _) _ _) _ _ _); k_dflt (refine wpAny_call ?_; (refine' code_def ?k1 ?k2 ?k3 ?k4 ?k5 ?kA ?kF ?kK ?k6 ?k7 ?k8 ?k9 ?kB ?_ ?c2 ?c3 ?c4 ?c5; (case kA => exact rfl); (case kF => exact rfl); (case kK => first | exact rfl | assumption); (case k1 => k_asm); (case k2 => k_asm); (case k3 => k_asm); (case k4 => k_asm); (case k5 => k_asm); (case k6 => k_is); (case k7 => k_is); (case k8 => ktr_room); (case k9 => first | exact BindsTo.of_eq rfl | exact binds_K (by k_in) rfl (by k_is) rfl rfl rfl | fail "k_enter: no rule for these arguments"); (case c5 => decide); (case kB => exact locs rfl); (case c2 => exact rfl); (case c3 => exact rfl); (case c4 => exact rfl); k_whole; intro _ _ _ _ _ _ zzB' _ _; (try dsimp only); (try k_lift zzB'); (try k_fold))))
  k_with "mine2" => ((with_reducible show wpAny _ _ (call (Value.type "type") [Value.bytes _ _]) _ _ _); refine call_type_of (Tx := "bytes") rfl (by decide +kernel) ?_)
  k_with "mine3" => ((with_reducible show wpAny _ _ (call (Value.type "type") [Value.str _ _]) _ _ _); refine call_type_of (Tx := "str") rfl (by decide +kernel) ?_)
  k_with "mine4" => ((with_reducible show wpAny _ _ (call (Value.type "type") [Value.bool _]) _ _ _); refine call_type_of (Tx := "bool") rfl (by decide +kernel) ?_)
  k_with "mine5" => ((with_reducible show wpAny _ _ (compareOp CmpOp.Is (Value.type _) (Value.type _)) _ _ _); first | refine wpAny_is_self (by rfl) ?_ | refine wpAny_is_other (by rfl) (by intro zzz; exact absurd (Value.type.inj zzz) (by decide)) ?_)
  k_with "mine6" => ((with_reducible show wpAny _ _ (subscriptTail _ _ (Value.bytes _ _) (Value.int _ _)) _ _ _); first
    | refine sub_b64 (band_in _ (by decide)).1 (Int.lt_of_le_of_lt (band_in _ (by decide)).2 (by decide)) ?_
    | refine sub_b64 (band_3 _).1 (band_3 _).2 ?_
    | refine sub_b64 (band_15 _).1 (band_15 _).2 ?_)
  k_with "mine7" => (k_here; k_dflt (refine' append_K ?k1 ?k2 ?k3 ?_ ?z; (case k1 => k_asm); (case k2 => k_asm); (case k3 => k_upd); (case z => size_fits); k_whole); intro _ _ _; (try k_sweep))
  k_with "mine8" => ((with_reducible show wpAny _ _ (binaryOp Operator.LShift (Value.int (Builtin.bitAnd _ _) _) (Value.int _ _)) _ _ _); refine lshift_int_small (by decide) (by decide) (band_abs _ (by decide) (by decide)) ?_)
  k_with "mine9" => repeat' ((fail_if_success (with_reducible show InvEndN _ _ _ _ _ _ _)); first | (k_unfold; (try dsimp only)) | (k_end; wrow_close) | walk1 | (dsimp only; walk1) | (leave1; walk_say "STEP leave1"; try dsimp only) | fail "no step")
  k_with "state" => first | exact pst_nil | exact pst_0 hP | exact pst_2 hP | exact pst_4 hP
  w_strict (refine wpAny_call ?_; k_dflt cell_enter; k_steps)
  obtain ⟨ks, hks⟩ : ∃ ks, KBw.bInts b = ks := ⟨_, rfl⟩
  have hI0 : IntsAre [] [] := IntsAre.nil
  have hkl : ks.length ≤ 1000 := by rw [← hks, KBw.ints_length]; exact hb
  k_state (fun pre lb lc out => Pst pre lb lc out) "leftbits" "leftchar" "out"
  · have hP := kInv
    obtain ⟨hlb, h1, h2, h3, -⟩ := kInv
    rcases hlb with rfl | rfl | rfl
    · w_strict k_steps
    · w_strict k_steps
    · w_strict k_steps
  · have hP := kInv
    obtain ⟨hlb, h1, h2, h3, h4, -⟩ := kInv
    rcases hlb with rfl | rfl | rfl
    · w_strict k_steps
      rw [enc_end_0 hks hP] at hret
      exact hret _ _ _ (by k_asm) (cb_drop (by assumption) fun p hp => List.Mem.tail _ hp)
    · w_strict k_steps
      (rename News _ _ _ _ => nE'); simp only [List.push_toArray] at nE'
      refine bytes_made (by k_asm) nE' rfl (IntsAre.append (IntsAre.append (IntsAre.append kFacts (.cons _ _ .nil)) (.cons _ _ .nil)) (.cons _ _ .nil)) (in_snoc (in_snoc (in_snoc h4 (b64c_in _)) (by decide)) (by decide)) (by simp; omega) ?_
      intro h' t' k' F' N'
      w_strict k_steps
      rw [enc_end_2 hks hP] at hret
      exact hret _ _ _ (by k_asm) (by k_asm)
    · w_strict k_steps
      (rename News _ _ _ _ => nE'); simp only [List.push_toArray] at nE'
      refine bytes_made (by k_asm) nE' rfl (IntsAre.append (IntsAre.append kFacts (.cons _ _ .nil)) (.cons _ _ .nil)) (in_snoc (in_snoc h4 (b64c_in _)) (by decide)) (by simp; omega) ?_
      intro h' t' k' F' N'
      w_strict k_steps
      rw [enc_end_4 hks hP] at hret
      exact hret _ _ _ (by k_asm) (by k_asm)
local macro_rules | `(tactic| walk_at "call ref") => `(tactic| k_extra "mine10")
theorem b64encode_spec {w : World} {mean : ExcName → Option Value} {mg mb : Str → Option Value} (b : Array UInt8) (t : Tok) (hb : b.size ≤ 1000) : Spec 3 w mean mg mb 94 [.bytes b t] [] (fun t => .bytes (byteArr (encInts (KBw.bInts b))) t) := by
  w_on
  dsimp only [Spec, PR]
  k_fill
  intro news dp un gd cn cs a ccd cl outer A₀ base h₀ L m s Q E hB hF hK hN hT hk hd hu hret
  dsimp only [CbRet] at hret
  k_with_none
  k_with "mine1" => (k_here; (with_reducible show wpAny _ _ (call (Value.ref _) _ _) _ _ _); k_dflt (refine wpAny_call ?_; (refine' code_def ?k1 ?k2 ?k3 ?k4 ?k5 ?kA ?kF ?kK ?k6 ?k7 ?k8 ?k9 ?kB ?_ ?c2 ?c3 ?c4 ?c5; (case kA => exact rfl); (case kF => exact rfl); (case kK => first | exact rfl | assumption); (case k1 => k_asm); (case k2 => k_asm); (case k3 => k_asm); (case k4 => k_asm); (case k5 => k_asm); (case k6 => k_is); (case k7 => k_is); (case k8 => ktr_room); (case k9 => first | exact BindsTo.of_eq rfl | exact binds_K (by k_in) rfl (by k_is) rfl rfl rfl | fail "k_enter: no rule for these arguments"); (case c5 => decide); (case kB => exact locs rfl); (case c2 => exact rfl); (case c3 => exact rfl); (case c4 => exact rfl); k_whole; intro _ _ _ _ _ _ zzB' _ _; (try dsimp only); (try k_lift zzB'); (try k_fold))))
  k_with "mine2" => ((with_reducible show wpAny _ _ (call (Value.type "type") [Value.bytes _ _]) _ _ _); refine call_type_of (Tx := "bytes") rfl (by decide +kernel) ?_)
  k_with "mine3" => ((with_reducible show wpAny _ _ (call (Value.type "type") [Value.str _ _]) _ _ _); refine call_type_of (Tx := "str") rfl (by decide +kernel) ?_)
  k_with "mine4" => ((with_reducible show wpAny _ _ (call (Value.type "type") [Value.bool _]) _ _ _); refine call_type_of (Tx := "bool") rfl (by decide +kernel) ?_)
  k_with "mine5" => ((with_reducible show wpAny _ _ (compareOp CmpOp.Is (Value.type _) (Value.type _)) _ _ _); first | refine wpAny_is_self (by rfl) ?_ | refine wpAny_is_other (by rfl) (by intro zzz; exact absurd (Value.type.inj zzz) (by decide)) ?_)
  k_with "mine6" => ((with_reducible show wpAny _ _ (subscriptTail _ _ (Value.bytes _ _) (Value.int _ _)) _ _ _); first
    | refine sub_b64 (band_in _ (by decide)).1 (Int.lt_of_le_of_lt (band_in _ (by decide)).2 (by decide)) ?_
    | refine sub_b64 (band_3 _).1 (band_3 _).2 ?_
    | refine sub_b64 (band_15 _).1 (band_15 _).2 ?_)
  k_with "mine7" => (k_here; k_dflt (refine' append_K ?k1 ?k2 ?k3 ?_ ?z; (case k1 => k_asm); (case k2 => k_asm); (case k3 => k_upd); (case z => size_fits); k_whole); intro _ _ _; (try k_sweep))
  k_with "mine8" => ((with_reducible show wpAny _ _ (binaryOp Operator.LShift (Value.int (Builtin.bitAnd _ _) _) (Value.int _ _)) _ _ _); refine lshift_int_small (by decide) (by decide) (band_abs _ (by decide) (by decide)) ?_)
  k_with "mine9" => repeat' ((fail_if_success (with_reducible show InvEndN _ _ _ _ _ _ _)); first | (k_unfold; (try dsimp only)) | (k_end; wrow_close) | walk1 | (dsimp only; walk1) | (leave1; walk_say "STEP leave1"; try dsimp only) | fail "no step")
  k_with "mine10" => (k_here; k_dflt (refine' use (b2a_spec _ _ ?hb) ?B ?F ?X ?N ?T ?hk ?hd ?hu ?_; (case hb => assumption); (case B => k_asm); (case F => k_asm); (case X => k_asm); (case N => k_asm); (case T => k_asm); (case hk => first | exact rfl | assumption); (case hd => ktr_room); (case hu => ktr_units); k_whole); intro _ _ _ _ _; (try dsimp only); (try k_sweep))
  w_strict k_steps
  exact hret _ _ _ (by k_asm) (by k_asm)
local macro_rules | `(tactic| walk_at "call ref") => `(tactic| k_extra "mine11")
local macro_rules | `(tactic| walk_at "getMethod bytes") => `(tactic| (k_here; (with_reducible refine method_translate ?_)))
theorem urlsafe_spec {w : World} {mean : ExcName → Option Value} {mg mb : Str → Option Value} (b : Array UInt8) (t : Tok) (hb : b.size ≤ 1000) : Spec 4 w mean mg mb 109 [.bytes b t] [] (fun t => .bytes ((byteArr (encInts (KBw.bInts b))).map fun c => urlL.toArray.getD c.toNat c) t) := by
  w_on
  dsimp only [Spec, PR]
  k_fill
  intro news dp un gd cn cs a ccd cl outer A₀ base h₀ L m s Q E hB hF hK hN hT hk hd hu hret
  dsimp only [CbRet] at hret
  k_with_none
  k_with "mine1" => (k_here; (with_reducible show wpAny _ _ (call (Value.ref _) _ _) _ _ _); k_dflt (refine wpAny_call ?_; (refine' code_def ?k1 ?k2 ?k3 ?k4 ?k5 ?kA ?kF ?kK ?k6 ?k7 ?k8 ?k9 ?kB ?_ ?c2 ?c3 ?c4 ?c5; (case kA => exact rfl); (case kF => exact rfl); (case kK => first | exact rfl | assumption); (case k1 => k_asm); (case k2 => k_asm); (case k3 => k_asm); (case k4 => k_asm); (case k5 => k_asm); (case k6 => k_is); (case k7 => k_is); (case k8 => ktr_room); (case k9 => first | exact BindsTo.of_eq rfl | exact binds_K (by k_in) rfl (by k_is) rfl rfl rfl | fail "k_enter: no rule for these arguments"); (case c5 => decide); (case kB => exact locs rfl); (case c2 => exact rfl); (case c3 => exact rfl); (case c4 => exact rfl); k_whole; intro _ _ _ _ _ _ zzB' _ _; (try dsimp only); (try k_lift zzB'); (try k_fold))))
  k_with "mine2" => ((with_reducible show wpAny _ _ (call (Value.type "type") [Value.bytes _ _]) _ _ _); refine call_type_of (Tx := "bytes") rfl (by decide +kernel) ?_)
  k_with "mine3" => ((with_reducible show wpAny _ _ (call (Value.type "type") [Value.str _ _]) _ _ _); refine call_type_of (Tx := "str") rfl (by decide +kernel) ?_)
  k_with "mine4" => ((with_reducible show wpAny _ _ (call (Value.type "type") [Value.bool _]) _ _ _); refine call_type_of (Tx := "bool") rfl (by decide +kernel) ?_)
  k_with "mine5" => ((with_reducible show wpAny _ _ (compareOp CmpOp.Is (Value.type _) (Value.type _)) _ _ _); first | refine wpAny_is_self (by rfl) ?_ | refine wpAny_is_other (by rfl) (by intro zzz; exact absurd (Value.type.inj zzz) (by decide)) ?_)
  k_with "mine6" => ((with_reducible show wpAny _ _ (subscriptTail _ _ (Value.bytes _ _) (Value.int _ _)) _ _ _); first
    | refine sub_b64 (band_in _ (by decide)).1 (Int.lt_of_le_of_lt (band_in _ (by decide)).2 (by decide)) ?_
    | refine sub_b64 (band_3 _).1 (band_3 _).2 ?_
    | refine sub_b64 (band_15 _).1 (band_15 _).2 ?_)
  k_with "mine7" => (k_here; k_dflt (refine' append_K ?k1 ?k2 ?k3 ?_ ?z; (case k1 => k_asm); (case k2 => k_asm); (case k3 => k_upd); (case z => size_fits); k_whole); intro _ _ _; (try k_sweep))
  k_with "mine8" => ((with_reducible show wpAny _ _ (binaryOp Operator.LShift (Value.int (Builtin.bitAnd _ _) _) (Value.int _ _)) _ _ _); refine lshift_int_small (by decide) (by decide) (band_abs _ (by decide) (by decide)) ?_)
  k_with "mine9" => repeat' ((fail_if_success (with_reducible show InvEndN _ _ _ _ _ _ _)); first | (k_unfold; (try dsimp only)) | (k_end; wrow_close) | walk1 | (dsimp only; walk1) | (leave1; walk_say "STEP leave1"; try dsimp only) | fail "no step")
  k_with "mine10" => (k_here; k_dflt (refine' use (b2a_spec _ _ ?hb) ?B ?F ?X ?N ?T ?hk ?hd ?hu ?_; (case hb => assumption); (case B => k_asm); (case F => k_asm); (case X => k_asm); (case N => k_asm); (case T => k_asm); (case hk => first | exact rfl | assumption); (case hd => ktr_room); (case hu => ktr_units); k_whole); intro _ _ _ _ _; (try dsimp only); (try k_sweep))
  k_with "mine11" => (k_here; k_dflt (refine' use (b64encode_spec _ _ ?hb) ?B ?F ?X ?N ?T ?hk ?hd ?hu ?_; (case hb => assumption); (case B => k_asm); (case F => k_asm); (case X => k_asm); (case N => k_asm); (case T => k_asm); (case hk => first | exact rfl | assumption); (case hd => ktr_room); (case hu => ktr_units); k_whole); intro _ _ _ _ _; (try dsimp only); (try k_sweep))
  w_strict k_steps
  refine call_translate (T := urlL.toArray) urlL_size ?_ ?_
  · rw [byteArr_size]
    have := enc_len (KBw.bInts b)
    rw [KBw.ints_length] at this
    omega
  intro t' k'
  w_strict k_steps
  exact hret _ _ _ (by k_asm) (by k_asm)
end
section
noncomputable def b64v (c : Int) : Int := if 65 ≤ c ∧ c ≤ 90 then c - 65 else if 97 ≤ c ∧ c ≤ 122 then c - 71 else if 48 ≤ c ∧ c ≤ 57 then c + 4 else if c = 43 then 62 else if c = 47 then 63 else 64
theorem v65 {c : Int} (h : 65 ≤ c) (k : c ≤ 90) : c - 65 = b64v c := (if_pos ⟨h, k⟩).symm
theorem v97 {c : Int} (h : 97 ≤ c) (k : c ≤ 122) : c - 71 = b64v c := ((if_neg (by omega)).trans (if_pos ⟨h, k⟩)).symm
theorem v48 {c : Int} (h : 48 ≤ c) (k : c ≤ 57) : c + 4 = b64v c := ((if_neg (by omega)).trans ((if_neg (by omega)).trans (if_pos ⟨h, k⟩))).symm
theorem v43 {c : Int} (h : c = 43) : 62 = b64v c := by subst h; decide
theorem v47 {c : Int} (h : c = 47) : 63 = b64v c := by subst h; decide
theorem v64 {c : Int} (h1 : ¬ (65 ≤ c ∧ c ≤ 90)) (h2 : ¬ (97 ≤ c ∧ c ≤ 122)) (h3 : ¬ (48 ≤ c ∧ c ≤ 57)) (h4 : c ≠ 43) (h5 : c ≠ 47) : 64 = b64v c :=
  ((if_neg h1).trans ((if_neg h2).trans ((if_neg h3).trans ((if_neg h4).trans (if_neg h5))))).symm
theorem b64_value_spec {w : World} {mean : ExcName → Option Value} {mg mb : Str → Option Value} (c : Int) (t : Tok) : Spec 1 w mean mg mb 70 [.int c t] [] (fun t => .int (b64v c) t) := by
  w_on
  dsimp only [Spec, PR]
  k_fill
  intro news dp un gd cn cs a ccd cl outer A₀ base h₀ L m s Q E hB hF hK hN hT hk hd hu hret
  dsimp only [CbRet] at hret
  k_with_none
  k_with "mine1" => (k_here; (with_reducible show wpAny _ _ (call (Value.ref _) _ _) _ _ _); k_dflt (refine wpAny_call ?_; (refine' code_def ?k1 ?k2 ?k3 ?k4 ?k5 ?kA ?kF ?kK ?k6 ?k7 ?k8 ?k9 ?kB ?_ ?c2 ?c3 ?c4 ?c5; (case kA => exact rfl); (case kF => exact rfl); (case kK => first | exact rfl | assumption); (case k1 => k_asm); (case k2 => k_asm); (case k3 => k_asm); (case k4 => k_asm); (case k5 => k_asm); (case k6 => k_is); (case k7 => k_is); (case k8 => ktr_room); (case k9 => first | exact BindsTo.of_eq rfl | exact binds_K (by k_in) rfl (by k_is) rfl rfl rfl | fail "k_enter: no rule for these arguments"); (case c5 => decide); (case kB => exact locs rfl); (case c2 => exact rfl); (case c3 => exact rfl); (case c4 => exact rfl); k_whole; intro _ _ _ _ _ _ zzB' _ _; (try dsimp only); (try k_lift zzB'); (try k_fold))))
  k_with "mine2" => ((with_reducible show wpAny _ _ (call (Value.type "type") [Value.bytes _ _]) _ _ _); refine call_type_of (Tx := "bytes") rfl (by decide +kernel) ?_)
  k_with "mine3" => ((with_reducible show wpAny _ _ (call (Value.type "type") [Value.str _ _]) _ _ _); refine call_type_of (Tx := "str") rfl (by decide +kernel) ?_)
  k_with "mine4" => ((with_reducible show wpAny _ _ (call (Value.type "type") [Value.bool _]) _ _ _); refine call_type_of (Tx := "bool") rfl (by decide +kernel) ?_)
  k_with "mine5" => ((with_reducible show wpAny _ _ (compareOp CmpOp.Is (Value.type _) (Value.type _)) _ _ _); first | refine wpAny_is_self (by rfl) ?_ | refine wpAny_is_other (by rfl) (by intro zzz; exact absurd (Value.type.inj zzz) (by decide)) ?_)
  k_with "mine6" => ((with_reducible show wpAny _ _ (subscriptTail _ _ (Value.bytes _ _) (Value.int _ _)) _ _ _); first
    | refine sub_b64 (band_in _ (by decide)).1 (Int.lt_of_le_of_lt (band_in _ (by decide)).2 (by decide)) ?_
    | refine sub_b64 (band_3 _).1 (band_3 _).2 ?_
    | refine sub_b64 (band_15 _).1 (band_15 _).2 ?_)
  k_with "mine7" => (k_here; k_dflt (refine' append_K ?k1 ?k2 ?k3 ?_ ?z; (case k1 => k_asm); (case k2 => k_asm); (case k3 => k_upd); (case z => size_fits); k_whole); intro _ _ _; (try k_sweep))
  k_with "mine8" => ((with_reducible show wpAny _ _ (binaryOp Operator.LShift (Value.int (Builtin.bitAnd _ _) _) (Value.int _ _)) _ _ _); refine lshift_int_small (by decide) (by decide) (band_abs _ (by decide) (by decide)) ?_)
  k_with "mine9" => repeat' ((fail_if_success (with_reducible show InvEndN _ _ _ _ _ _ _)); first | (k_unfold; (try dsimp only)) | (k_end; wrow_close) | walk1 | (dsimp only; walk1) | (leave1; walk_say "STEP leave1"; try dsimp only) | fail "no step")
  k_with "tree" => first | exact v43 (by omega) | exact v47 (by omega) | exact v64 (by omega) (by omega) (by omega) (by omega) (by omega) | exact v65 (by omega) (by omega) | exact v97 (by omega) (by omega) | exact v48 (by omega) (by omega)
  w_strict (refine wpAny_call ?_; k_dflt cell_enter; k_steps; all_goals (cb_end hret))
theorem b64v_in (c : Int) : 0 ≤ b64v c ∧ b64v c ≤ 64 := by
  unfold b64v
  split
  · omega
  · split
    · omega
    · split
      · omega
      · split
        · omega
        · split <;> omega
noncomputable abbrev DSt := List Int × Int × Int × Int
/-- one sign more, read strictly: the octets so far, the place in the four, the bits kept, the pads -/
noncomputable def decStep (st : DSt) (n : Int) : Option DSt :=
  if n = 61 then (if 2 ≤ st.2.1 ∧ st.2.1 + (st.2.2.2 + 1) ≤ 4 then some (st.1, st.2.1, st.2.2.1, st.2.2.2 + 1) else none)
  else if 64 ≤ b64v n then none
  else if st.2.2.2 ≠ 0 then none
  else if st.2.1 = 0 then some (st.1, 1, b64v n, 0)
  else if st.2.1 = 1 then some (st.1 ++ [Builtin.bitOr (st.2.2.1 * 2 ^ Int.toNat 2) ((b64v n).fdiv (2 ^ Int.toNat 4))], 2, Builtin.bitAnd (b64v n) 15, 0)
  else if st.2.1 = 2 then some (st.1 ++ [Builtin.bitOr (st.2.2.1 * 2 ^ Int.toNat 4) ((b64v n).fdiv (2 ^ Int.toNat 2))], 3, Builtin.bitAnd (b64v n) 3, 0)
  else some (st.1 ++ [Builtin.bitOr (st.2.2.1 * 2 ^ Int.toNat 6) (b64v n)], 0, 0, 0)
noncomputable def decRun (ks : List Int) : Option DSt := ks.foldlM decStep ([], 0, 0, 0)
theorem decRun_snoc (pre : List Int) (n : Int) : decRun (pre ++ [n]) = (decRun pre).bind fun st => decStep st n := by
  unfold decRun
  rw [List.foldlM_append]
  cases h : pre.foldlM decStep ([], 0, 0, 0) with
  | none => rfl
  | some st =>
    show (([n] : List Int).foldlM decStep st : Option DSt) = decStep st n
    simp
theorem decRun_app (pre post : List Int) (n : Int) (h : (decRun (pre ++ n :: post)).isSome = true) : (decRun (pre ++ [n])).isSome = true := by
  have e : pre ++ n :: post = (pre ++ [n]) ++ post := by simp
  rw [e] at h
  unfold decRun at h ⊢
  rw [List.foldlM_append] at h
  cases h2 : (pre ++ [n]).foldlM decStep ([], 0, 0, 0) with
  | none => rw [h2] at h; exact absurd h (by simp)
  | some st => rfl
noncomputable def Pdec (pre : List Int) (out : List Int) (qp lc pads i : Int) : Prop :=
  decRun pre = some (out, qp, lc, pads) ∧ 0 ≤ lc ∧ lc < 64 ∧ 0 ≤ qp ∧ qp ≤ 3 ∧ 0 ≤ pads ∧ pads ≤ 4 ∧ i = (pre.length : Int) ∧ out.length ≤ pre.length
theorem pdec_nil : Pdec [] [] 0 0 0 0 := ⟨rfl, by decide, by decide, by decide, by decide, by decide, by decide, rfl, by decide⟩
theorem dec_cases {pre post ks out : List Int} {n qp lc pads i : Int} (h : Pdec pre out qp lc pads i) (e : ks = pre ++ n :: post) (hs : (decRun ks).isSome = true) :
    (n = 61 ∧ 2 ≤ qp ∧ qp + (pads + 1) ≤ 4) ∨ (n ≠ 61 ∧ b64v n < 64 ∧ pads = 0 ∧ (qp = 0 ∨ qp = 1 ∨ qp = 2 ∨ qp = 3)) := by
  subst e
  have h1 := decRun_app pre post n hs
  obtain ⟨hr, -, -, hq0, hq3, -⟩ := h
  rw [decRun_snoc, hr] at h1
  have h2 : (decStep (out, qp, lc, pads) n).isSome = true := h1
  unfold decStep at h2
  dsimp only at h2
  by_cases hn : n = 61
  · rw [if_pos hn] at h2
    by_cases hc : 2 ≤ qp ∧ qp + (pads + 1) ≤ 4
    · exact .inl ⟨hn, hc⟩
    · rw [if_neg hc] at h2; cases h2
  · rw [if_neg hn] at h2
    by_cases hv : 64 ≤ b64v n
    · rw [if_pos hv] at h2; cases h2
    · rw [if_neg hv] at h2
      by_cases hp : pads ≠ 0
      · rw [if_pos hp] at h2; cases h2
      · exact .inr ⟨hn, by omega, by omega, by omega⟩
section
variable {pre out : List Int} {n qp lc pads i : Int}
theorem pdec_pad (h : Pdec pre out qp lc pads i) (hn : n = 61) (hq : 2 ≤ qp) (hp : qp + (pads + 1) ≤ 4) : Pdec (pre ++ [n]) out qp lc (pads + 1) (i + 1) := by
  obtain ⟨h0, h1, h2, h3, h4, h5, h6, h7, h8⟩ := h
  refine ⟨?_, h1, h2, h3, h4, by omega, by omega, by simp; omega, by simp; omega⟩
  rw [decRun_snoc, h0]
  show decStep _ _ = _
  unfold decStep
  rw [if_pos hn, if_pos ⟨hq, hp⟩]
theorem pdec_0 (h : Pdec pre out 0 lc 0 i) (hn : n ≠ 61) (hv : b64v n < 64) : Pdec (pre ++ [n]) out 1 (b64v n) 0 (i + 1) := by
  obtain ⟨h0, h1, h2, h3, h4, h5, h6, h7, h8⟩ := h
  have hb := b64v_in n
  refine ⟨?_, hb.1, hv, by decide, by decide, by decide, by decide, by simp; omega, by simp; omega⟩
  rw [decRun_snoc, h0]
  show decStep _ _ = _
  unfold decStep
  rw [if_neg hn, if_neg (by omega), if_neg (by simp), if_pos rfl]
theorem pdec_1 (h : Pdec pre out 1 lc 0 i) (hn : n ≠ 61) (hv : b64v n < 64) : Pdec (pre ++ [n]) (out ++ [Builtin.bitOr (lc * 2 ^ Int.toNat 2) ((b64v n).fdiv (2 ^ Int.toNat 4))]) 2 (Builtin.bitAnd (b64v n) 15) 0 (i + 1) := by
  obtain ⟨h0, h1, h2, h3, h4, h5, h6, h7, h8⟩ := h
  have hb := band_in (b64v n) (m := 15) (by decide)
  refine ⟨?_, hb.1, by omega, by decide, by decide, by decide, by decide, by simp; omega, by simp; omega⟩
  rw [decRun_snoc, h0]
  show decStep _ _ = _
  unfold decStep
  rw [if_neg hn, if_neg (by omega), if_neg (by simp), if_neg (by simp), if_pos rfl]
theorem pdec_2 (h : Pdec pre out 2 lc 0 i) (hn : n ≠ 61) (hv : b64v n < 64) : Pdec (pre ++ [n]) (out ++ [Builtin.bitOr (lc * 2 ^ Int.toNat 4) ((b64v n).fdiv (2 ^ Int.toNat 2))]) 3 (Builtin.bitAnd (b64v n) 3) 0 (i + 1) := by
  obtain ⟨h0, h1, h2, h3, h4, h5, h6, h7, h8⟩ := h
  have hb := band_in (b64v n) (m := 3) (by decide)
  refine ⟨?_, hb.1, by omega, by decide, by decide, by decide, by decide, by simp; omega, by simp; omega⟩
  rw [decRun_snoc, h0]
  show decStep _ _ = _
  unfold decStep
  rw [if_neg hn, if_neg (by omega), if_neg (by simp), if_neg (by simp), if_neg (by simp), if_pos rfl]
theorem pdec_3 (h : Pdec pre out 3 lc 0 i) (hn : n ≠ 61) (hv : b64v n < 64) : Pdec (pre ++ [n]) (out ++ [Builtin.bitOr (lc * 2 ^ Int.toNat 6) (b64v n)]) 0 0 0 (i + 1) := by
  obtain ⟨h0, h1, h2, h3, h4, h5, h6, h7, h8⟩ := h
  refine ⟨?_, by decide, by decide, by decide, by decide, by decide, by decide, by simp; omega, by simp; omega⟩
  rw [decRun_snoc, h0]
  show decStep _ _ = _
  unfold decStep
  rw [if_neg hn, if_neg (by omega), if_neg (by simp), if_neg (by simp), if_neg (by simp), if_neg (by simp)]
end
local macro_rules | `(tactic| walk_at "call ref") => `(tactic| k_extra "mine12")
theorem a2b_spec {w : World} {mean : ExcName → Option Value} {mg mb : Str → Option Value} (b : Array UInt8) (t : Tok) (fo : List Int) (fq fl fp : Int) (hb : b.size ≤ 1000) (hdec : decRun (KBw.bInts b) = some (fo, fq, fl, fp)) (hq1 : fq ≠ 1) (hq2 : fq = 0 ∨ 4 ≤ fq + fp) (hin : KBa.In fo) :
    Spec 3 w mean mg mb 78 [.bytes b t] [(Str.ofString "strict_mode", .bool true)] (fun t => .bytes (byteArr fo) t) := by
  w_on
  dsimp only [Spec, PR]
  k_fill
  intro news dp un gd cn cs a ccd cl outer A₀ base h₀ L m s Q E hB hF hK hN hT hk hd hu hret
  dsimp only [CbRet] at hret
  k_with_none
  k_with "mine1" => (k_here; (with_reducible show wpAny _ _ (call (Value.ref _) _ _) _ _ _); k_dflt (refine wpAny_call ?_; (refine' code_def ?k1 ?k2 ?k3 ?k4 ?k5 ?kA ?kF ?kK ?k6 ?k7 ?k8 ?k9 ?kB ?_ ?c2 ?c3 ?c4 ?c5; (case kA => exact rfl); (case kF => exact rfl); (case kK => first | exact rfl | assumption); (case k1 => k_asm); (case k2 => k_asm); (case k3 => k_asm); (case k4 => k_asm); (case k5 => k_asm); (case k6 => k_is); (case k7 => k_is); (case k8 => ktr_room); (case k9 => first | exact BindsTo.of_eq rfl | exact binds_K (by k_in) rfl (by k_is) rfl rfl rfl | fail "k_enter: no rule for these arguments"); (case c5 => decide); (case kB => exact locs rfl); (case c2 => exact rfl); (case c3 => exact rfl); (case c4 => exact rfl); k_whole; intro _ _ _ _ _ _ zzB' _ _; (try dsimp only); (try k_lift zzB'); (try k_fold))))
  k_with "mine2" => ((with_reducible show wpAny _ _ (call (Value.type "type") [Value.bytes _ _]) _ _ _); refine call_type_of (Tx := "bytes") rfl (by decide +kernel) ?_)
  k_with "mine3" => ((with_reducible show wpAny _ _ (call (Value.type "type") [Value.str _ _]) _ _ _); refine call_type_of (Tx := "str") rfl (by decide +kernel) ?_)
  k_with "mine4" => ((with_reducible show wpAny _ _ (call (Value.type "type") [Value.bool _]) _ _ _); refine call_type_of (Tx := "bool") rfl (by decide +kernel) ?_)
  k_with "mine5" => ((with_reducible show wpAny _ _ (compareOp CmpOp.Is (Value.type _) (Value.type _)) _ _ _); first | refine wpAny_is_self (by rfl) ?_ | refine wpAny_is_other (by rfl) (by intro zzz; exact absurd (Value.type.inj zzz) (by decide)) ?_)
  k_with "mine6" => ((with_reducible show wpAny _ _ (subscriptTail _ _ (Value.bytes _ _) (Value.int _ _)) _ _ _); first
    | refine sub_b64 (band_in _ (by decide)).1 (Int.lt_of_le_of_lt (band_in _ (by decide)).2 (by decide)) ?_
    | refine sub_b64 (band_3 _).1 (band_3 _).2 ?_
    | refine sub_b64 (band_15 _).1 (band_15 _).2 ?_)
  k_with "mine7" => (k_here; k_dflt (refine' append_K ?k1 ?k2 ?k3 ?_ ?z; (case k1 => k_asm); (case k2 => k_asm); (case k3 => k_upd); (case z => size_fits); k_whole); intro _ _ _; (try k_sweep))
  k_with "mine8" => ((with_reducible show wpAny _ _ (binaryOp Operator.LShift (Value.int (Builtin.bitAnd _ _) _) (Value.int _ _)) _ _ _); refine lshift_int_small (by decide) (by decide) (band_abs _ (by decide) (by decide)) ?_)
  k_with "mine9" => repeat' ((fail_if_success (with_reducible show InvEndN _ _ _ _ _ _ _)); first | (k_unfold; (try dsimp only)) | (k_end; wrow_close) | walk1 | (dsimp only; walk1) | (leave1; walk_say "STEP leave1"; try dsimp only) | fail "no step")
  k_with "mine12" => (k_here; k_dflt (refine' use (b64_value_spec _ _) ?B ?F ?X ?N ?T ?hk ?hd ?hu ?_; (case B => k_asm); (case F => k_asm); (case X => k_asm); (case N => k_asm); (case T => k_asm); (case hk => first | exact rfl | assumption); (case hd => ktr_room); (case hu => ktr_units); k_whole); intro _ _ _ _ _; (try dsimp only); (try k_sweep))
  k_with "state" => first | exact pdec_nil | exact pdec_pad hP rfl hq hp | exact pdec_0 hP hn61 hv | exact pdec_1 hP hn61 hv | exact pdec_2 hP hn61 hv | exact pdec_3 hP hn61 hv
  w_strict (refine wpAny_call ?_; k_dflt cell_enter; k_steps)
  obtain ⟨ks, hks⟩ : ∃ ks, KBw.bInts b = ks := ⟨_, rfl⟩
  have hI0 : IntsAre [] [] := IntsAre.nil
  have hkl : ks.length ≤ 1000 := by rw [← hks, KBw.ints_length]; exact hb
  rw [hks] at hdec
  k_state (fun pre out qp lc pads i => Pdec pre out qp lc pads i) "out" "quad_pos" "leftchar" "pads" "i"
  · have hP := kInv
    obtain ⟨-, h1, h2, h3, h4, h5, h6, h7, h8⟩ := kInv
    have hbv := b64v_in kN
    rcases dec_cases hP kEq (by rw [hdec]; rfl) with ⟨hn61, hq, hp⟩ | ⟨hn61, hv, rfl, rfl | rfl | rfl | rfl⟩
    · subst hn61
      w_strict ktn_open
      (rename News _ _ _ _ => nE'); (try simp only [List.push_toArray] at nE')
      refine kst_end ⟨_, _, _, _, _, _, _, _, _, _, _⟩ (by assumption) nE' (by first | kst_in | kst_inAny) (by first | (intro p hp; kst_mem) | kst_anyIn) (by rfl) (by kst_facts) (by kst_all) (by kst_same) ?_
      exact pdec_pad hP rfl hq hp
    all_goals (have e61 : (kN == 61) = false := by simpa using hn61)
    · w_strict ktn_open
      (rename News _ _ _ _ => nE'); (try simp only [List.push_toArray] at nE')
      refine kst_end ⟨_, _, _, _, _, _, _, _, _, _, _⟩ (by assumption) nE' (by first | kst_in | kst_inAny) (by first | (intro p hp; kst_mem) | kst_anyIn) (by rfl) (by kst_facts) (by kst_all) (by kst_same) ?_
      exact pdec_0 hP hn61 hv
    · w_strict ktn_open
      (rename News _ _ _ _ => nE'); (try simp only [List.push_toArray] at nE')
      refine kst_end ⟨_, _, _, _, _, _, _, _, _, _, _⟩ (by assumption) nE' (by first | kst_in | kst_inAny) (by first | (intro p hp; kst_mem) | kst_anyIn) (by rfl) (by kst_facts) (by kst_all) (by kst_same) ?_
      exact pdec_1 hP hn61 hv
    · w_strict ktn_open
      (rename News _ _ _ _ => nE'); (try simp only [List.push_toArray] at nE')
      refine kst_end ⟨_, _, _, _, _, _, _, _, _, _, _⟩ (by assumption) nE' (by first | kst_in | kst_inAny) (by first | (intro p hp; kst_mem) | kst_anyIn) (by rfl) (by kst_facts) (by kst_all) (by kst_same) ?_
      exact pdec_2 hP hn61 hv
    · w_strict ktn_open
      (rename News _ _ _ _ => nE'); (try simp only [List.push_toArray] at nE')
      refine kst_end ⟨_, _, _, _, _, _, _, _, _, _, _⟩ (by assumption) nE' (by first | kst_in | kst_inAny) (by first | (intro p hp; kst_mem) | kst_anyIn) (by rfl) (by kst_facts) (by kst_all) (by kst_same) ?_
      exact pdec_3 hP hn61 hv
  · have hP := kInv
    obtain ⟨h0, h1, h2, h3, h4, h5, h6, h7, h8⟩ := kInv
    rw [hdec] at h0
    cases h0
    have eq1 : (fq == 1) = false := by simpa using hq1
    rcases hq2 with rfl | hq2
    · w_strict k_steps
      exact hret _ _ _ (by k_asm) (cb_drop (by assumption) fun p hp => List.Mem.tail _ hp)
    · w_strict k_steps
      all_goals exact hret _ _ _ (by k_asm) (cb_drop (by assumption) fun p hp => List.Mem.tail _ hp)
local macro_rules | `(tactic| walk_at "call ref") => `(tactic| k_extra "mine13")
theorem b64decode_bytes_spec {w : World} {mean : ExcName → Option Value} {mg mb : Str → Option Value} (b : Array UInt8) (t : Tok) (fo : List Int) (fq fl fp : Int) (hb : b.size ≤ 1000) (hdec : decRun (KBw.bInts b) = some (fo, fq, fl, fp)) (hq1 : fq ≠ 1) (hq2 : fq = 0 ∨ 4 ≤ fq + fp) (hin : KBa.In fo) :
    Spec 5 w mean mg mb 102 [.bytes b t, .none, .bool true] [] (fun t => .bytes (byteArr fo) t) := by
  w_on
  dsimp only [Spec, PR]
  k_fill
  intro news dp un gd cn cs a ccd cl outer A₀ base h₀ L m s Q E hB hF hK hN hT hk hd hu hret
  dsimp only [CbRet] at hret
  k_with_none
  k_with "mine1" => (k_here; (with_reducible show wpAny _ _ (call (Value.ref _) _ _) _ _ _); k_dflt (refine wpAny_call ?_; (refine' code_def ?k1 ?k2 ?k3 ?k4 ?k5 ?kA ?kF ?kK ?k6 ?k7 ?k8 ?k9 ?kB ?_ ?c2 ?c3 ?c4 ?c5; (case kA => exact rfl); (case kF => exact rfl); (case kK => first | exact rfl | assumption); (case k1 => k_asm); (case k2 => k_asm); (case k3 => k_asm); (case k4 => k_asm); (case k5 => k_asm); (case k6 => k_is); (case k7 => k_is); (case k8 => ktr_room); (case k9 => first | exact BindsTo.of_eq rfl | exact binds_K (by k_in) rfl (by k_is) rfl rfl rfl | fail "k_enter: no rule for these arguments"); (case c5 => decide); (case kB => exact locs rfl); (case c2 => exact rfl); (case c3 => exact rfl); (case c4 => exact rfl); k_whole; intro _ _ _ _ _ _ zzB' _ _; (try dsimp only); (try k_lift zzB'); (try k_fold))))
  k_with "mine2" => ((with_reducible show wpAny _ _ (call (Value.type "type") [Value.bytes _ _]) _ _ _); refine call_type_of (Tx := "bytes") rfl (by decide +kernel) ?_)
  k_with "mine3" => ((with_reducible show wpAny _ _ (call (Value.type "type") [Value.str _ _]) _ _ _); refine call_type_of (Tx := "str") rfl (by decide +kernel) ?_)
  k_with "mine4" => ((with_reducible show wpAny _ _ (call (Value.type "type") [Value.bool _]) _ _ _); refine call_type_of (Tx := "bool") rfl (by decide +kernel) ?_)
  k_with "mine5" => ((with_reducible show wpAny _ _ (compareOp CmpOp.Is (Value.type _) (Value.type _)) _ _ _); first | refine wpAny_is_self (by rfl) ?_ | refine wpAny_is_other (by rfl) (by intro zzz; exact absurd (Value.type.inj zzz) (by decide)) ?_)
  k_with "mine6" => ((with_reducible show wpAny _ _ (subscriptTail _ _ (Value.bytes _ _) (Value.int _ _)) _ _ _); first
    | refine sub_b64 (band_in _ (by decide)).1 (Int.lt_of_le_of_lt (band_in _ (by decide)).2 (by decide)) ?_
    | refine sub_b64 (band_3 _).1 (band_3 _).2 ?_
    | refine sub_b64 (band_15 _).1 (band_15 _).2 ?_)
  k_with "mine7" => (k_here; k_dflt (refine' append_K ?k1 ?k2 ?k3 ?_ ?z; (case k1 => k_asm); (case k2 => k_asm); (case k3 => k_upd); (case z => size_fits); k_whole); intro _ _ _; (try k_sweep))
  k_with "mine8" => ((with_reducible show wpAny _ _ (binaryOp Operator.LShift (Value.int (Builtin.bitAnd _ _) _) (Value.int _ _)) _ _ _); refine lshift_int_small (by decide) (by decide) (band_abs _ (by decide) (by decide)) ?_)
  k_with "mine9" => repeat' ((fail_if_success (with_reducible show InvEndN _ _ _ _ _ _ _)); first | (k_unfold; (try dsimp only)) | (k_end; wrow_close) | walk1 | (dsimp only; walk1) | (leave1; walk_say "STEP leave1"; try dsimp only) | fail "no step")
  k_with "mine12" => (k_here; k_dflt (refine' use (b64_value_spec _ _) ?B ?F ?X ?N ?T ?hk ?hd ?hu ?_; (case B => k_asm); (case F => k_asm); (case X => k_asm); (case N => k_asm); (case T => k_asm); (case hk => first | exact rfl | assumption); (case hd => ktr_room); (case hu => ktr_units); k_whole); intro _ _ _ _ _; (try dsimp only); (try k_sweep))
  k_with "mine13" => (k_here; k_dflt (refine' use (a2b_spec _ _ _ _ _ _ ?h1 ?h2 ?h3 ?h4 ?h5) ?B ?F ?X ?N ?T ?hk ?hd ?hu ?_; (case h2 => assumption); (case h1 => assumption); (case h3 => assumption); (case h4 => assumption); (case h5 => assumption); (case B => k_asm); (case F => k_asm); (case X => k_asm); (case N => k_asm); (case T => k_asm); (case hk => first | exact rfl | assumption); (case hd => ktr_room); (case hu => ktr_units); k_whole); intro _ _ _ _ _; (try dsimp only); (try k_sweep))
  w_strict k_steps
  exact hret _ _ _ (by k_asm) (by k_asm)
theorem b64decode_str_spec {w : World} {mean : ExcName → Option Value} {mg mb : Str → Option Value} (x : Str) (t : Tok) (fo : List Int) (fq fl fp : Int) (hok : ∀ c ∈ x.cps.toList, c < 128) (hb : (x.cps.toList.map Nat.toUInt8).toArray.size ≤ 1000) (hdec : decRun (KBw.bInts (x.cps.toList.map Nat.toUInt8).toArray) = some (fo, fq, fl, fp)) (hq1 : fq ≠ 1) (hq2 : fq = 0 ∨ 4 ≤ fq + fp) (hin : KBa.In fo) :
    Spec 5 w mean mg mb 102 [.str x t, .none, .bool true] [] (fun t => .bytes (byteArr fo) t) := by
  w_on
  dsimp only [Spec, PR]
  k_fill
  intro news dp un gd cn cs a ccd cl outer A₀ base h₀ L m s Q E hB hF hK hN hT hk hd hu hret
  dsimp only [CbRet] at hret
  k_with_none
  k_with "mine1" => (k_here; (with_reducible show wpAny _ _ (call (Value.ref _) _ _) _ _ _); k_dflt (refine wpAny_call ?_; (refine' code_def ?k1 ?k2 ?k3 ?k4 ?k5 ?kA ?kF ?kK ?k6 ?k7 ?k8 ?k9 ?kB ?_ ?c2 ?c3 ?c4 ?c5; (case kA => exact rfl); (case kF => exact rfl); (case kK => first | exact rfl | assumption); (case k1 => k_asm); (case k2 => k_asm); (case k3 => k_asm); (case k4 => k_asm); (case k5 => k_asm); (case k6 => k_is); (case k7 => k_is); (case k8 => ktr_room); (case k9 => first | exact BindsTo.of_eq rfl | exact binds_K (by k_in) rfl (by k_is) rfl rfl rfl | fail "k_enter: no rule for these arguments"); (case c5 => decide); (case kB => exact locs rfl); (case c2 => exact rfl); (case c3 => exact rfl); (case c4 => exact rfl); k_whole; intro _ _ _ _ _ _ zzB' _ _; (try dsimp only); (try k_lift zzB'); (try k_fold))))
  k_with "mine2" => ((with_reducible show wpAny _ _ (call (Value.type "type") [Value.bytes _ _]) _ _ _); refine call_type_of (Tx := "bytes") rfl (by decide +kernel) ?_)
  k_with "mine3" => ((with_reducible show wpAny _ _ (call (Value.type "type") [Value.str _ _]) _ _ _); refine call_type_of (Tx := "str") rfl (by decide +kernel) ?_)
  k_with "mine4" => ((with_reducible show wpAny _ _ (call (Value.type "type") [Value.bool _]) _ _ _); refine call_type_of (Tx := "bool") rfl (by decide +kernel) ?_)
  k_with "mine5" => ((with_reducible show wpAny _ _ (compareOp CmpOp.Is (Value.type _) (Value.type _)) _ _ _); first | refine wpAny_is_self (by rfl) ?_ | refine wpAny_is_other (by rfl) (by intro zzz; exact absurd (Value.type.inj zzz) (by decide)) ?_)
  k_with "mine6" => ((with_reducible show wpAny _ _ (subscriptTail _ _ (Value.bytes _ _) (Value.int _ _)) _ _ _); first
    | refine sub_b64 (band_in _ (by decide)).1 (Int.lt_of_le_of_lt (band_in _ (by decide)).2 (by decide)) ?_
    | refine sub_b64 (band_3 _).1 (band_3 _).2 ?_
    | refine sub_b64 (band_15 _).1 (band_15 _).2 ?_)
  k_with "mine7" => (k_here; k_dflt (refine' append_K ?k1 ?k2 ?k3 ?_ ?z; (case k1 => k_asm); (case k2 => k_asm); (case k3 => k_upd); (case z => size_fits); k_whole); intro _ _ _; (try k_sweep))
  k_with "mine8" => ((with_reducible show wpAny _ _ (binaryOp Operator.LShift (Value.int (Builtin.bitAnd _ _) _) (Value.int _ _)) _ _ _); refine lshift_int_small (by decide) (by decide) (band_abs _ (by decide) (by decide)) ?_)
  k_with "mine9" => repeat' ((fail_if_success (with_reducible show InvEndN _ _ _ _ _ _ _)); first | (k_unfold; (try dsimp only)) | (k_end; wrow_close) | walk1 | (dsimp only; walk1) | (leave1; walk_say "STEP leave1"; try dsimp only) | fail "no step")
  k_with "mine12" => (k_here; k_dflt (refine' use (b64_value_spec _ _) ?B ?F ?X ?N ?T ?hk ?hd ?hu ?_; (case B => k_asm); (case F => k_asm); (case X => k_asm); (case N => k_asm); (case T => k_asm); (case hk => first | exact rfl | assumption); (case hd => ktr_room); (case hu => ktr_units); k_whole); intro _ _ _ _ _; (try dsimp only); (try k_sweep))
  k_with "mine13" => (k_here; k_dflt (refine' use (a2b_spec _ _ _ _ _ _ ?h1 ?h2 ?h3 ?h4 ?h5) ?B ?F ?X ?N ?T ?hk ?hd ?hu ?_; (case h2 => assumption); (case h1 => assumption); (case h3 => assumption); (case h4 => assumption); (case h5 => assumption); (case B => k_asm); (case F => k_asm); (case X => k_asm); (case N => k_asm); (case T => k_asm); (case hk => first | exact rfl | assumption); (case hd => ktr_room); (case hu => ktr_units); k_whole); intro _ _ _ _ _; (try dsimp only); (try k_sweep))
  w_strict k_steps
  refine call_encode_ascii hok (by simp at hb; show x.cps.size ≤ _; omega) ?_
  intro t' k'
  w_strict k_steps
  exact hret _ _ _ (by k_asm) (by k_asm)
end
section
local macro_rules | `(tactic| walk_at "mine pad 0") => `(tactic| fail "pad")
section
local macro_rules | `(tactic| walk_at "execs cons") => `(tactic| refine wpAny_execs_cons ?_)
local macro_rules | `(tactic| walk_at "execs nil") => `(tactic| refine wpAny_execs_nil ?_)
theorem escape_spec {w : World} {mean : ExcName → Option Value} {mg mb : Str → Option Value} (l : List Nat) (t : Tok) (q : Bool) (hl : l.length ≤ 100) :
    SpecT 2 w mean mg mb 117 [.str ⟨l.toArray⟩ t, .bool q] [] (fun t => .str ⟨(escL q l).toArray⟩ t) := by
  w_on
  dsimp only [SpecT, PR]
  k_fill
  intro news dp un gd cn cs a ccd cl outer A₀ base h₀ L m s Q E ht hB hF hK hN hT hk hd hu hret
  dsimp only [CbRet] at hret
  k_with_none
  k_with "mine1" => (k_here; (with_reducible show wpAny _ _ (call (Value.ref _) _ _) _ _ _); k_dflt (refine wpAny_call ?_; (refine' code_def ?k1 ?k2 ?k3 ?k4 ?k5 ?kA ?kF ?kK ?k6 ?k7 ?k8 ?k9 ?kB ?_ ?c2 ?c3 ?c4 ?c5; (case kA => exact rfl); (case kF => exact rfl); (case kK => first | exact rfl | assumption); (case k1 => k_asm); (case k2 => k_asm); (case k3 => k_asm); (case k4 => k_asm); (case k5 => k_asm); (case k6 => k_is); (case k7 => k_is); (case k8 => ktr_room); (case k9 => first | exact BindsTo.of_eq rfl | exact binds_K (by k_in) rfl (by k_is) rfl rfl rfl | fail "k_enter: no rule for these arguments"); (case c5 => decide); (case kB => exact locs rfl); (case c2 => exact rfl); (case c3 => exact rfl); (case c4 => exact rfl); k_whole; intro _ _ _ _ _ _ zzB' _ _; (try dsimp only); (try k_lift zzB'); (try k_fold))))
  k_with "mine2" => ((with_reducible show wpAny _ _ (call (Value.type "type") [Value.bytes _ _]) _ _ _); refine call_type_of (Tx := "bytes") rfl (by decide +kernel) ?_)
  k_with "mine3" => ((with_reducible show wpAny _ _ (call (Value.type "type") [Value.str _ _]) _ _ _); refine call_type_of (Tx := "str") rfl (by decide +kernel) ?_)
  k_with "mine4" => ((with_reducible show wpAny _ _ (call (Value.type "type") [Value.bool _]) _ _ _); refine call_type_of (Tx := "bool") rfl (by decide +kernel) ?_)
  k_with "mine5" => ((with_reducible show wpAny _ _ (compareOp CmpOp.Is (Value.type _) (Value.type _)) _ _ _); first | refine wpAny_is_self (by rfl) ?_ | refine wpAny_is_other (by rfl) (by intro zzz; exact absurd (Value.type.inj zzz) (by decide)) ?_)
  k_with "mine6" => ((with_reducible show wpAny _ _ (subscriptTail _ _ (Value.bytes _ _) (Value.int _ _)) _ _ _); first
    | refine sub_b64 (band_in _ (by decide)).1 (Int.lt_of_le_of_lt (band_in _ (by decide)).2 (by decide)) ?_
    | refine sub_b64 (band_3 _).1 (band_3 _).2 ?_
    | refine sub_b64 (band_15 _).1 (band_15 _).2 ?_)
  k_with "mine7" => (k_here; k_dflt (refine' append_K ?k1 ?k2 ?k3 ?_ ?z; (case k1 => k_asm); (case k2 => k_asm); (case k3 => k_upd); (case z => size_fits); k_whole); intro _ _ _; (try k_sweep))
  k_with "mine8" => ((with_reducible show wpAny _ _ (binaryOp Operator.LShift (Value.int (Builtin.bitAnd _ _) _) (Value.int _ _)) _ _ _); refine lshift_int_small (by decide) (by decide) (band_abs _ (by decide) (by decide)) ?_)
  k_with "mine9" => repeat' ((fail_if_success (with_reducible show InvEndN _ _ _ _ _ _ _)); first | (k_unfold; (try dsimp only)) | (k_end; wrow_close) | walk1 | (dsimp only; walk1) | (leave1; walk_say "STEP leave1"; try dsimp only) | fail "no step")
  repeat' ((fail_if_success (with_reducible show wpAny _ _ (call (Value.builtin "str.replace") _) _ _ _)); first | (k_unfold; (try dsimp only)) | (k_end; wrow_close) | walk1 | (dsimp only; walk1) | (leave1; walk_say "STEP leave1"; try dsimp only) | fail "no step")
  refine call_replace1 38 [38, 97, 109, 112, 59] (by decide) (by decide) (by decide) (by decide) ?_ ?_ ?_ ?_ ?_ ?_
  · dsimp only; omega
  · dsimp only; omega
  · dsimp only; omega
  · omega
  · dsimp only; omega
  intro t0 k0 hk0 hl0
  dsimp only
  repeat' ((fail_if_success (with_reducible show wpAny _ _ (call (Value.builtin "str.replace") _) _ _ _)); first | (k_unfold; (try dsimp only)) | (k_end; wrow_close) | walk1 | (dsimp only; walk1) | (leave1; walk_say "STEP leave1"; try dsimp only) | fail "no step")
  refine call_replace1 60 [38, 108, 116, 59] (by decide) (by decide) (by decide) (by decide) ?_ ?_ ?_ ?_ ?_ ?_
  · dsimp only; omega
  · dsimp only; omega
  · dsimp only; omega
  · omega
  · dsimp only; omega
  intro t1 k1 hk1 hl1
  dsimp only
  repeat' ((fail_if_success (with_reducible show wpAny _ _ (call (Value.builtin "str.replace") _) _ _ _)); first | (k_unfold; (try dsimp only)) | (k_end; wrow_close) | walk1 | (dsimp only; walk1) | (leave1; walk_say "STEP leave1"; try dsimp only) | fail "no step")
  refine call_replace1 62 [38, 103, 116, 59] (by decide) (by decide) (by decide) (by decide) ?_ ?_ ?_ ?_ ?_ ?_
  · dsimp only; omega
  · dsimp only; omega
  · dsimp only; omega
  · omega
  · dsimp only; omega
  intro t2 k2 hk2 hl2
  dsimp only
  cases q
  · skip
    w_strict k_steps
    exact hret _ _ _ (by k_asm) (by k_asm)
  · skip
    repeat' ((fail_if_success (with_reducible show wpAny _ _ (call (Value.builtin "str.replace") _) _ _ _)); first | (k_unfold; (try dsimp only)) | (k_end; wrow_close) | walk1 | (dsimp only; walk1) | (leave1; walk_say "STEP leave1"; try dsimp only) | fail "no step")
    refine call_replace1 34 [38, 113, 117, 111, 116, 59] (by decide) (by decide) (by decide) (by decide) ?_ ?_ ?_ ?_ ?_ ?_
    · dsimp only; omega
    · dsimp only; omega
    · dsimp only; omega
    · omega
    · dsimp only; omega
    intro t3 k3 hk3 hl3
    dsimp only
    repeat' ((fail_if_success (with_reducible show wpAny _ _ (call (Value.builtin "str.replace") _) _ _ _)); first | (k_unfold; (try dsimp only)) | (k_end; wrow_close) | walk1 | (dsimp only; walk1) | (leave1; walk_say "STEP leave1"; try dsimp only) | fail "no step")
    refine call_replace1 39 [38, 35, 120, 50, 55, 59] (by decide) (by decide) (by decide) (by decide) ?_ ?_ ?_ ?_ ?_ ?_
    · dsimp only; omega
    · dsimp only; omega
    · dsimp only; omega
    · omega
    · dsimp only; omega
    intro t4 k4 hk4 hl4
    dsimp only
    w_strict k_steps
    exact hret _ _ _ (by k_asm) (by k_asm)
end
end
section
theorem turn1 {prog : Program} {w : World} {A : Around} {E : Value → Shared → Prop} {s : Shared} {env : Env} {h₀ : Heap} {target : PySem.Expr} {body : List Stmt} {Q : Flow → Shared → Prop} {ax I : Addr} {lo : Obj} {v : Value} {r : List Itm} {m : Str → Option Value} {news : List (Addr × Obj)}
    (hm : (ax, lo) ∈ news) (hI : ∀ p ∈ news, p.1 < I)
    (turn : ∀ h tk o, Fr h₀ env.locals h m → News h₀ env.locals h ((I, o) :: news) →
      wpAny (model prog w) A (assign target env v) (fun _ s₂ => wpAny (model prog w) A (execs body env) (fun f s₃ => f = .next ∧ ∃ h' tk' m', s₃ = { s with heap := h', toks := tk' } ∧ Fr h₀ env.locals h' m' ∧ News h₀ env.locals h' ((I, o) :: news) ∧ ItemsRest prog w A E h₀ env target body Q s [(I, "list_iterator")] [(ax, lo)] r m' news) E s₂) E { s with heap := h, toks := tk }) :
    ItemsRest prog w A E h₀ env target body Q s [(I, "list_iterator")] [(ax, lo)] (.val v :: r) m news := by
  refine ItemsRest.val fun h tk F' => AllObj.cons fun o _ => AllObj.nil fun N' => ?_
  refine wpAny_mono (turn h tk o F' N') (fun _ s₂ h₂ => wpAny_mono h₂ (fun f s₃ h₃ => ?_) fun _ _ e => e) fun _ _ e => e
  obtain ⟨rfl, h', tk', m', rfl, F₃, N₃, hj₃⟩ := h₃
  refine ⟨h', tk', m', news, rfl, F₃, N₃, ?_, ⟨⟨hm, trivial⟩, hj₃⟩⟩
  intro p hp q hq
  rw [List.mem_singleton.mp hq]
  exact Nat.ne_of_lt (hI p hp)
theorem abs_news {h₀ h : Heap} {L : Addr} {a b c d e f : Addr × Obj} {news : List (Addr × Obj)} (N : News h₀ L h (a :: b :: c :: d :: e :: f :: news)) {P : Prop}
    (k : ∀ nw, (∀ p ∈ news, p ∈ nw) → a ∈ nw → b ∈ nw → c ∈ nw → d ∈ nw → e ∈ nw → f ∈ nw → News h₀ L h nw → P) : P :=
  k _ (fun p hp => by simp only [List.mem_cons]; exact .inr (.inr (.inr (.inr (.inr (.inr hp)))))) (by simp) (by simp) (by simp) (by simp) (by simp) (by simp) N
section
local macro_rules | `(tactic| walk_at "execs cons") => `(tactic| k_extra "mine14")
local macro_rules | `(tactic| walk_at "execs nil") => `(tactic| k_extra "mine15")
local macro_rules | `(tactic| walk_at "assign Tuple") => `(tactic| k_extra "mine16")
local macro_rules | `(tactic| walk_at "exec For Tuple List cons nil") => `(tactic| k_extra "mine17")
theorem put_back_spec {w : World} {mean : ExcName → Option Value} {mg mb : Str → Option Value} (l : List Nat) (t : Tok) (hl : l.length ≤ 1000) :
    SpecT 2 w mean mg mb 150 [.str ⟨l.toArray⟩ t] [] (fun t => .str ⟨(putBackL l).toArray⟩ t) := by
  w_on
  dsimp only [SpecT, PR]
  k_fill
  intro news dp un gd cn cs a ccd cl outer A₀ base h₀ L m s Q E ht hB hF hK hN hT hk hd hu hret
  dsimp only [CbRet] at hret
  k_with_none
  k_with "mine1" => (k_here; (with_reducible show wpAny _ _ (call (Value.ref _) _ _) _ _ _); k_dflt (refine wpAny_call ?_; (refine' code_def ?k1 ?k2 ?k3 ?k4 ?k5 ?kA ?kF ?kK ?k6 ?k7 ?k8 ?k9 ?kB ?_ ?c2 ?c3 ?c4 ?c5; (case kA => exact rfl); (case kF => exact rfl); (case kK => first | exact rfl | assumption); (case k1 => k_asm); (case k2 => k_asm); (case k3 => k_asm); (case k4 => k_asm); (case k5 => k_asm); (case k6 => k_is); (case k7 => k_is); (case k8 => ktr_room); (case k9 => first | exact BindsTo.of_eq rfl | exact binds_K (by k_in) rfl (by k_is) rfl rfl rfl | fail "k_enter: no rule for these arguments"); (case c5 => decide); (case kB => exact locs rfl); (case c2 => exact rfl); (case c3 => exact rfl); (case c4 => exact rfl); k_whole; intro _ _ _ _ _ _ zzB' _ _; (try dsimp only); (try k_lift zzB'); (try k_fold))))
  k_with "mine2" => ((with_reducible show wpAny _ _ (call (Value.type "type") [Value.bytes _ _]) _ _ _); refine call_type_of (Tx := "bytes") rfl (by decide +kernel) ?_)
  k_with "mine3" => ((with_reducible show wpAny _ _ (call (Value.type "type") [Value.str _ _]) _ _ _); refine call_type_of (Tx := "str") rfl (by decide +kernel) ?_)
  k_with "mine4" => ((with_reducible show wpAny _ _ (call (Value.type "type") [Value.bool _]) _ _ _); refine call_type_of (Tx := "bool") rfl (by decide +kernel) ?_)
  k_with "mine5" => ((with_reducible show wpAny _ _ (compareOp CmpOp.Is (Value.type _) (Value.type _)) _ _ _); first | refine wpAny_is_self (by rfl) ?_ | refine wpAny_is_other (by rfl) (by intro zzz; exact absurd (Value.type.inj zzz) (by decide)) ?_)
  k_with "mine6" => ((with_reducible show wpAny _ _ (subscriptTail _ _ (Value.bytes _ _) (Value.int _ _)) _ _ _); first
    | refine sub_b64 (band_in _ (by decide)).1 (Int.lt_of_le_of_lt (band_in _ (by decide)).2 (by decide)) ?_
    | refine sub_b64 (band_3 _).1 (band_3 _).2 ?_
    | refine sub_b64 (band_15 _).1 (band_15 _).2 ?_)
  k_with "mine7" => (k_here; k_dflt (refine' append_K ?k1 ?k2 ?k3 ?_ ?z; (case k1 => k_asm); (case k2 => k_asm); (case k3 => k_upd); (case z => size_fits); k_whole); intro _ _ _; (try k_sweep))
  k_with "mine8" => ((with_reducible show wpAny _ _ (binaryOp Operator.LShift (Value.int (Builtin.bitAnd _ _) _) (Value.int _ _)) _ _ _); refine lshift_int_small (by decide) (by decide) (band_abs _ (by decide) (by decide)) ?_)
  k_with "mine9" => repeat' ((fail_if_success (with_reducible show InvEndN _ _ _ _ _ _ _)); first | (k_unfold; (try dsimp only)) | (k_end; wrow_close) | walk1 | (dsimp only; walk1) | (leave1; walk_say "STEP leave1"; try dsimp only) | fail "no step")
  k_with "mine14" => (k_here; (try dsimp only); (with_reducible refine toks_gen ?gt ?_); (case gt => omega); intro _ _; refine wpAny_execs_cons ?_)
  k_with "mine15" => (k_here; (try dsimp only); (with_reducible refine toks_gen ?gt ?_); (case gt => omega); intro _ _; refine wpAny_execs_nil ?_)
  k_with "mine16" => (k_here; (with_reducible show wpAny _ _ (assign (Expr.Tuple _ _ _) _ (Value.ref _)) _ _ _); k_dflt (refine' unpackN_ ?F ?N ?T ?k1 ?k2 ?k3 ?_; (case F => k_asm); (case N => k_asm); (case T => exact News.isTup (by assumption) (List.Mem.tail _ (by assumption))); (case k1 => exact rfl); (case k2 => exact rfl); (case k3 => exact rfl)); intro _ _ _; (try k_sweep))
  k_with "mine17" => (k_here; (rename Fr _ _ _ _ => zzlF'); (with_reducible refine For_turns zzlF' ?_ ?hs ?hE); (case hs => (intro _; kernel_rfl)); (case hE => passes_own))
  repeat' ((fail_if_success (with_reducible show wpAny _ _ (pyIter _) _ _ _)); first | (k_unfold; (try dsimp only)) | (k_end; wrow_close) | (walk1; (try dsimp only)) | (dsimp only; walk1) | (leave1; walk_say "STEP leave1"; try dsimp only) | fail "no step")
  k_here
  rename Fr _ _ _ _ => lF
  rename News _ _ _ _ => lN
  refine abs_news lN ?_
  intro nw hsub hA hB5 hC hD5 hE hF5 lN9
  clear lN
  refine iter_listTurns rfl lF lN9 hA rfl rfl fun I hI => ?_
  clear lF
  refine turn1 hA hI fun h1 tk1 o1 F1 N1 => ?_
  repeat' ((fail_if_success (with_reducible show wpAny _ _ (call (Value.builtin "str.replace") _) _ _ _)); first | (k_unfold; (try dsimp only)) | (k_end; wrow_close) | (walk1; (try dsimp only)) | (dsimp only; walk1) | (leave1; walk_say "STEP leave1"; try dsimp only) | fail "no step")
  refine call_replaceH [38, 108, 116, 59] [60] (by decide) (by decide) (by decide) (by decide) (by decide) (by decide) ?_ ?_ ?_ ?_ ?_
  · (try dsimp only); omega
  · (try dsimp only); omega
  · (try dsimp only); omega
  · omega
  intro q0 k0 hl0
  dsimp only
  repeat' ((fail_if_success (with_reducible show _ ∧ _)); first | (k_unfold; (try dsimp only)) | (k_end; wrow_close) | (walk1; (try dsimp only)) | (dsimp only; walk1) | (leave1; walk_say "STEP leave1"; try dsimp only) | fail "no step")
  refine ⟨rfl, _, _, _, rfl, by assumption, by assumption, ?_⟩
  refine turn1 hA hI fun h2 tk2 o2 F2 N2 => ?_
  repeat' ((fail_if_success (with_reducible show wpAny _ _ (call (Value.builtin "str.replace") _) _ _ _)); first | (k_unfold; (try dsimp only)) | (k_end; wrow_close) | (walk1; (try dsimp only)) | (dsimp only; walk1) | (leave1; walk_say "STEP leave1"; try dsimp only) | fail "no step")
  refine call_replaceH [38, 103, 116, 59] [62] (by decide) (by decide) (by decide) (by decide) (by decide) (by decide) ?_ ?_ ?_ ?_ ?_
  · (try dsimp only); omega
  · (try dsimp only); omega
  · (try dsimp only); omega
  · omega
  intro q1 k1 hl1
  dsimp only
  repeat' ((fail_if_success (with_reducible show _ ∧ _)); first | (k_unfold; (try dsimp only)) | (k_end; wrow_close) | (walk1; (try dsimp only)) | (dsimp only; walk1) | (leave1; walk_say "STEP leave1"; try dsimp only) | fail "no step")
  refine ⟨rfl, _, _, _, rfl, by assumption, by assumption, ?_⟩
  refine turn1 hA hI fun h3 tk3 o3 F3 N3 => ?_
  repeat' ((fail_if_success (with_reducible show wpAny _ _ (call (Value.builtin "str.replace") _) _ _ _)); first | (k_unfold; (try dsimp only)) | (k_end; wrow_close) | (walk1; (try dsimp only)) | (dsimp only; walk1) | (leave1; walk_say "STEP leave1"; try dsimp only) | fail "no step")
  refine call_replaceH [38, 113, 117, 111, 116, 59] [34] (by decide) (by decide) (by decide) (by decide) (by decide) (by decide) ?_ ?_ ?_ ?_ ?_
  · (try dsimp only); omega
  · (try dsimp only); omega
  · (try dsimp only); omega
  · omega
  intro q2 k2 hl2
  dsimp only
  repeat' ((fail_if_success (with_reducible show _ ∧ _)); first | (k_unfold; (try dsimp only)) | (k_end; wrow_close) | (walk1; (try dsimp only)) | (dsimp only; walk1) | (leave1; walk_say "STEP leave1"; try dsimp only) | fail "no step")
  refine ⟨rfl, _, _, _, rfl, by assumption, by assumption, ?_⟩
  refine turn1 hA hI fun h4 tk4 o4 F4 N4 => ?_
  repeat' ((fail_if_success (with_reducible show wpAny _ _ (call (Value.builtin "str.replace") _) _ _ _)); first | (k_unfold; (try dsimp only)) | (k_end; wrow_close) | (walk1; (try dsimp only)) | (dsimp only; walk1) | (leave1; walk_say "STEP leave1"; try dsimp only) | fail "no step")
  refine call_replaceH [38, 35, 120, 50, 55, 59] [39] (by decide) (by decide) (by decide) (by decide) (by decide) (by decide) ?_ ?_ ?_ ?_ ?_
  · (try dsimp only); omega
  · (try dsimp only); omega
  · (try dsimp only); omega
  · omega
  intro q3 k3 hl3
  dsimp only
  repeat' ((fail_if_success (with_reducible show _ ∧ _)); first | (k_unfold; (try dsimp only)) | (k_end; wrow_close) | (walk1; (try dsimp only)) | (dsimp only; walk1) | (leave1; walk_say "STEP leave1"; try dsimp only) | fail "no step")
  refine ⟨rfl, _, _, _, rfl, by assumption, by assumption, ?_⟩
  refine turn1 hA hI fun h5 tk5 o5 F5 N5 => ?_
  repeat' ((fail_if_success (with_reducible show wpAny _ _ (call (Value.builtin "str.replace") _) _ _ _)); first | (k_unfold; (try dsimp only)) | (k_end; wrow_close) | (walk1; (try dsimp only)) | (dsimp only; walk1) | (leave1; walk_say "STEP leave1"; try dsimp only) | fail "no step")
  refine call_replaceH [38, 97, 109, 112, 59] [38] (by decide) (by decide) (by decide) (by decide) (by decide) (by decide) ?_ ?_ ?_ ?_ ?_
  · (try dsimp only); omega
  · (try dsimp only); omega
  · (try dsimp only); omega
  · omega
  intro q4 k4 hl4
  dsimp only
  repeat' ((fail_if_success (with_reducible show _ ∧ _)); first | (k_unfold; (try dsimp only)) | (k_end; wrow_close) | (walk1; (try dsimp only)) | (dsimp only; walk1) | (leave1; walk_say "STEP leave1"; try dsimp only) | fail "no step")
  refine ⟨rfl, _, _, _, rfl, by assumption, by assumption, ?_⟩
  refine ItemsRest.zero fun h9 tk9 F9 N9 => ?_
  dsimp only
  repeat' (first | (k_unfold; (try dsimp only)) | (k_end; wrow_close) | (walk1; (try dsimp only)) | (dsimp only; walk1) | (leave1; walk_say "STEP leave1"; try dsimp only) | fail "no step")
  exact hret _ _ _ (by k_asm) (cb_drop (by assumption) fun p hp => hsub p hp)
end
end
section
noncomputable def turnC (c : Nat) : Nat := if c = 60 then 62 else if c = 62 then 60 else if c = 34 then 39 else if c = 39 then 34 else c
noncomputable def turnL (l : List Nat) : List Nat := l.map turnC
theorem str_ne {a b : Nat} (h : ¬ a = b) : ¬ ((⟨#[a]⟩ : Str) = ⟨#[b]⟩) := by
  intro e; injection e with e; simp at e; exact h e
theorem same_str9 (a b : Str) : Spec.same (.str a) (.str b) = decide (a = b) := by
  by_cases h : a = b <;> simp [Spec.same, h]
theorem turn_look (c : Nat) (a1 a2 a3 a4 a5 a6 a7 a8 : Tok) : (Spec.lookup (PyData.str ⟨#[c]⟩) (strData [(Value.str (Str.ofString "<") a1, Value.str (Str.ofString ">") a2), (Value.str (Str.ofString ">") a3, Value.str (Str.ofString "<") a4),
    (Value.str (Str.ofString "\"") a5, Value.str (Str.ofString "'") a6), (Value.str (Str.ofString "'") a7, Value.str (Str.ofString "\"") a8)])).getD (PyData.str ⟨#[c]⟩) = .str ⟨#[turnC c]⟩ := by
  have e1 : Str.ofString "<" = ⟨#[60]⟩ := by decide
  have e2 : Str.ofString ">" = ⟨#[62]⟩ := by decide
  have e3 : Str.ofString "\"" = ⟨#[34]⟩ := by decide
  have e4 : Str.ofString "'" = ⟨#[39]⟩ := by decide
  rw [e1, e2, e3, e4]
  show (Spec.lookup (PyData.str ⟨#[c]⟩) [(.str ⟨#[60]⟩, .str ⟨#[62]⟩), (.str ⟨#[62]⟩, .str ⟨#[60]⟩), (.str ⟨#[34]⟩, .str ⟨#[39]⟩), (.str ⟨#[39]⟩, .str ⟨#[34]⟩)]).getD _ = _
  unfold turnC
  by_cases h1 : c = 60
  · subst h1; rfl
  by_cases h2 : c = 62
  · subst h2; rfl
  by_cases h3 : c = 34
  · subst h3; rfl
  by_cases h4 : c = 39
  · subst h4; rfl
  rw [if_neg h1, if_neg h2, if_neg h3, if_neg h4]
  have n1 : Spec.same (.str ⟨#[60]⟩) (.str ⟨#[c]⟩) = false := by rw [same_str9, decide_eq_false_iff_not]; exact str_ne fun e => h1 e.symm
  have n2 : Spec.same (.str ⟨#[62]⟩) (.str ⟨#[c]⟩) = false := by rw [same_str9, decide_eq_false_iff_not]; exact str_ne fun e => h2 e.symm
  have n3 : Spec.same (.str ⟨#[34]⟩) (.str ⟨#[c]⟩) = false := by rw [same_str9, decide_eq_false_iff_not]; exact str_ne fun e => h3 e.symm
  have n4 : Spec.same (.str ⟨#[39]⟩) (.str ⟨#[c]⟩) = false := by rw [same_str9, decide_eq_false_iff_not]; exact str_ne fun e => h4 e.symm
  simp [Spec.lookup, n1, n2, n3, n4]
local macro_rules | `(tactic| walk_at "eval ListComp") => `(tactic| k_extra "mine18")
theorem turned_spec {w : World} {mean : ExcName → Option Value} {mg mb : Str → Option Value} (l : List Nat) (t : Tok) (hl : l.length ≤ 100) :
    Spec 3 w mean mg mb 129 [.str ⟨l.toArray⟩ t] [] (fun t => .str ⟨(turnL l).toArray⟩ t) := by
  w_on
  dsimp only [Spec, PR]
  k_fill
  intro news dp un gd cn cs a ccd cl outer A₀ base h₀ L m s Q E hB hF hK hN hT hk hd hu hret
  dsimp only [CbRet] at hret
  k_with_none
  k_with "mine1" => (k_here; (with_reducible show wpAny _ _ (call (Value.ref _) _ _) _ _ _); k_dflt (refine wpAny_call ?_; (refine' code_def ?k1 ?k2 ?k3 ?k4 ?k5 ?kA ?kF ?kK ?k6 ?k7 ?k8 ?k9 ?kB ?_ ?c2 ?c3 ?c4 ?c5; (case kA => exact rfl); (case kF => exact rfl); (case kK => first | exact rfl | assumption); (case k1 => k_asm); (case k2 => k_asm); (case k3 => k_asm); (case k4 => k_asm); (case k5 => k_asm); (case k6 => k_is); (case k7 => k_is); (case k8 => ktr_room); (case k9 => first | exact BindsTo.of_eq rfl | exact binds_K (by k_in) rfl (by k_is) rfl rfl rfl | fail "k_enter: no rule for these arguments"); (case c5 => decide); (case kB => exact locs rfl); (case c2 => exact rfl); (case c3 => exact rfl); (case c4 => exact rfl); k_whole; intro _ _ _ _ _ _ zzB' _ _; (try dsimp only); (try k_lift zzB'); (try k_fold))))
  k_with "mine2" => ((with_reducible show wpAny _ _ (call (Value.type "type") [Value.bytes _ _]) _ _ _); refine call_type_of (Tx := "bytes") rfl (by decide +kernel) ?_)
  k_with "mine3" => ((with_reducible show wpAny _ _ (call (Value.type "type") [Value.str _ _]) _ _ _); refine call_type_of (Tx := "str") rfl (by decide +kernel) ?_)
  k_with "mine4" => ((with_reducible show wpAny _ _ (call (Value.type "type") [Value.bool _]) _ _ _); refine call_type_of (Tx := "bool") rfl (by decide +kernel) ?_)
  k_with "mine5" => ((with_reducible show wpAny _ _ (compareOp CmpOp.Is (Value.type _) (Value.type _)) _ _ _); first | refine wpAny_is_self (by rfl) ?_ | refine wpAny_is_other (by rfl) (by intro zzz; exact absurd (Value.type.inj zzz) (by decide)) ?_)
  k_with "mine6" => ((with_reducible show wpAny _ _ (subscriptTail _ _ (Value.bytes _ _) (Value.int _ _)) _ _ _); first
    | refine sub_b64 (band_in _ (by decide)).1 (Int.lt_of_le_of_lt (band_in _ (by decide)).2 (by decide)) ?_
    | refine sub_b64 (band_3 _).1 (band_3 _).2 ?_
    | refine sub_b64 (band_15 _).1 (band_15 _).2 ?_)
  k_with "mine7" => (k_here; k_dflt (refine' append_K ?k1 ?k2 ?k3 ?_ ?z; (case k1 => k_asm); (case k2 => k_asm); (case k3 => k_upd); (case z => size_fits); k_whole); intro _ _ _; (try k_sweep))
  k_with "mine8" => ((with_reducible show wpAny _ _ (binaryOp Operator.LShift (Value.int (Builtin.bitAnd _ _) _) (Value.int _ _)) _ _ _); refine lshift_int_small (by decide) (by decide) (band_abs _ (by decide) (by decide)) ?_)
  k_with "mine9" => repeat' ((fail_if_success (with_reducible show InvEndN _ _ _ _ _ _ _)); first | (k_unfold; (try dsimp only)) | (k_end; wrow_close) | walk1 | (dsimp only; walk1) | (leave1; walk_say "STEP leave1"; try dsimp only) | fail "no step")
  k_with "mine18" => (k_here; k_dflt (refine ListComp_text (_F₀ := by k_asm) (by with_unfolding_all rfl) (by decide) (by rfl) (by decide) (by rfl) ?_ ?hs; (case hs => (intro _; kernel_rfl))))
  refine wpAny_call ?_
  k_dflt (refine' code_defC ?k1 ?k2 ?k3 ?k4 ?k5 ?kA ?kF ?kK ?k6 ?k7 ?k8 ?k9 ?kB ?kD ?_ ?c2 ?c3 ?c4; (case kA => exact rfl); (case kF => exact rfl); (case kK => assumption); (case k1 => k_asm); (case k2 => k_asm); (case k3 => k_asm); (case k4 => k_asm); (case k5 => k_asm); (case k6 => k_is); (case k7 => k_is); (case k8 => ktr_room); (case k9 => exact BindsTo.of_eq rfl); (case kB => exact rfl); (case kD => decide +kernel); (case c2 => exact rfl); (case c3 => exact rfl); (case c4 => exact rfl); k_whole; intro g' L' h' tk' cells' FG' F' N' Y' B' X' T' l1; (have l2 : ∀ p ∈ news, p.1 < L' + 1 := fun p hp => Nat.lt_succ_of_lt (l1 p hp)); k_cells Y'; (try simp only [List.cons_append, List.nil_append] at N'); (try dsimp only); (try k_lift B'); (try k_fold))
  repeat' ((fail_if_success (with_reducible show ∃ (_ : Tok) (_ : Str) (_ : Tok) (_ : List (Addr × Obj)), _)); first | (k_unfold; (try dsimp only)) | (k_end; wrow_close) | (walk1; (try dsimp only)) | (dsimp only; walk1) | (leave1; walk_say "STEP leave1"; try dsimp only) | fail "no step")
  refine ⟨_, _, _, _, rfl, rfl, rfl, by k_asm, by k_asm, ?_, ?_⟩
  · rw [sizeLine_eq]; simp; omega
  rintro s₂ ⟨gg, rfl⟩
  have hsz : (⟨l.toArray⟩ : Str).cps.size = l.length := by simp
  rw [hsz]
  refine comp_signs l turnC ?_ ?_
  · intro c u I oI C oC D m₂ ys h9 tk9 E' hc hC hx F9 N9
    dsimp only
    repeat' ((fail_if_success (with_reducible show ∃ (_ : Heap) (_ : Nat) (_ : Tok), _)); first | (k_unfold; (try dsimp only)) | (k_end; wrow_close) | (walk1; (try dsimp only)) | (dsimp only; walk1) | (leave1; walk_say "STEP leave1"; try dsimp only) | fail "no step")
    (rename PyProof.V.Flat _ _ => hv9)
    rw [turn_look] at hv9
    obtain ⟨t', rfl⟩ := hv9.str_inv
    exact ⟨_, _, _, rfl, rfl, F9, N9⟩
  · intro ys hy D9 h9 tk9 F9 N9 o9
    repeat' ((fail_if_success (with_reducible show ∃ (_ : Heap) (_ : Nat) (_ : Tok), _)); first | (k_unfold; (try dsimp only)) | (k_end; wrow_close) | (walk1; (try dsimp only)) | (dsimp only; walk1) | (leave1; walk_say "STEP leave1"; try dsimp only) | fail "no step")
    refine call_join1 (by decide) (News.isList N9 (List.Mem.head _)) hy (by simp; omega) ?_
    intro t' k'
    repeat' (first | (k_unfold; (try dsimp only)) | (k_end; wrow_close) | (walk1; (try dsimp only)) | (dsimp only; walk1) | (leave1; walk_say "STEP leave1"; try dsimp only) | fail "no step")
    exact hret _ _ _ (by k_asm) (cb_drop (by assumption) fun p hp => List.Mem.tail _ (List.Mem.tail _ (List.Mem.tail _ hp)))
end
section
local macro_rules | `(tactic| ktn_open) => `(tactic| k_extra "mine19")
section
/-- what the law's difference holds of a sign -/
noncomputable def difC (q : Bool) (c : Nat) : List Int :=
  if c = 60 ∨ c = 62 then [0, 11, 0, 0] else if c = 34 ∨ c = 39 then (if q then [0, 82, 13, 93, 67, 0] else [5]) else if c = 38 then [0, 0, 0, 0, 0] else List.replicate (Str.utf8Of c).length 0
noncomputable def difL (q : Bool) (l : List Nat) : List Int := l.flatMap (difC q)
theorem utf8Of_len (c : Nat) : (Str.utf8Of c).length ≤ 4 := by
  unfold Str.utf8Of
  split
  · simp
  · split
    · simp
    · split <;> simp
theorem difC_len (q : Bool) (c : Nat) : (difC q c).length ≤ 6 := by
  unfold difC
  split
  · simp
  · split
    · split <;> simp
    · split
      · simp
      · have := utf8Of_len c
        simp; omega
theorem difC_in (q : Bool) (c : Nat) : KBa.In (difC q c) := by
  unfold difC
  split
  · intro n hn; simp at hn; omega
  · split
    · split
      · intro n hn; simp at hn; omega
      · intro n hn; simp at hn; omega
    · split
      · intro n hn; simp at hn; omega
      · intro n hn; have := List.eq_of_mem_replicate hn; omega
noncomputable def Pdif (q : Bool) (pre out : List Int) : Prop := out = difL q (pre.map Int.toNat) ∧ out.length ≤ 6 * pre.length ∧ KBa.In out
theorem pdif_nil (q : Bool) : Pdif q [] [] := ⟨rfl, by decide, fun _ h => (nomatch h)⟩
theorem in_app {a b : List Int} (h : KBa.In a) (k : KBa.In b) : KBa.In (a ++ b) := fun n hn => by
  rcases List.mem_append.mp hn with hn | hn
  · exact h n hn
  · exact k n hn
theorem pdif_step {q : Bool} {pre out d : List Int} {n : Nat} (h : Pdif q pre out) (hd : d = difC q n) : Pdif q (pre ++ [(n : Int)]) (out ++ d) := by
  obtain ⟨rfl, h2, h3⟩ := h
  subst hd
  have := difC_len q n
  refine ⟨?_, by simp only [List.length_append, List.length_singleton]; omega, in_app h3 (difC_in q n)⟩
  simp [difL]
local macro_rules | `(tactic| walk_at "call builtin:list.extend") => `(tactic| k_extra "mine20")
theorem dif_amp {q : Bool} {n : Nat} (h1 : (Builtin.Str.occurrences (Str.ofString "<>") ⟨#[n]⟩ 0 (Str.ofString "<>").length 1).isEmpty = true) (h2 : (Builtin.Str.occurrences (Str.ofString "\"'") ⟨#[n]⟩ 0 (Str.ofString "\"'").length 1).isEmpty = true) (h3 : ((⟨#[n]⟩ : Str) == Str.ofString "&") = true) :
    [0, 0, 0, 0, 0] = difC q n := by
  rw [occ_lt, decide_eq_true_eq] at h1
  rw [occ_qu, decide_eq_true_eq] at h2
  rw [eq_amp, decide_eq_true_eq] at h3
  unfold difC
  rw [if_neg h1, if_neg h2, if_pos h3]
theorem dif_else {q : Bool} {n : Nat} (h1 : (Builtin.Str.occurrences (Str.ofString "<>") ⟨#[n]⟩ 0 (Str.ofString "<>").length 1).isEmpty = true) (h2 : (Builtin.Str.occurrences (Str.ofString "\"'") ⟨#[n]⟩ 0 (Str.ofString "\"'").length 1).isEmpty = true) (h3 : ((⟨#[n]⟩ : Str) == Str.ofString "&") = false) :
    List.replicate (Str.utf8Of n).length 0 = difC q n := by
  rw [occ_lt, decide_eq_true_eq] at h1
  rw [occ_qu, decide_eq_true_eq] at h2
  rw [eq_amp, decide_eq_false_iff_not] at h3
  unfold difC
  rw [if_neg h1, if_neg h2, if_neg h3]
theorem dif_quo {q : Bool} {n : Nat} (h1 : (Builtin.Str.occurrences (Str.ofString "<>") ⟨#[n]⟩ 0 (Str.ofString "<>").length 1).isEmpty = true) (h2 : (Builtin.Str.occurrences (Str.ofString "\"'") ⟨#[n]⟩ 0 (Str.ofString "\"'").length 1).isEmpty = false) :
    (if q then [0, 82, 13, 93, 67, 0] else [5]) = difC q n := by
  rw [occ_lt, decide_eq_true_eq] at h1
  rw [occ_qu, decide_eq_false_iff_not, Decidable.not_not] at h2
  unfold difC
  rw [if_neg h1, if_pos h2]
theorem dif_quo_t {q : Bool} {n : Nat} (h1 : (Builtin.Str.occurrences (Str.ofString "<>") ⟨#[n]⟩ 0 (Str.ofString "<>").length 1).isEmpty = true) (h2 : (Builtin.Str.occurrences (Str.ofString "\"'") ⟨#[n]⟩ 0 (Str.ofString "\"'").length 1).isEmpty = false) (hq : q = true) :
    [0, 82, 13, 93, 67, 0] = difC q n := by have h := dif_quo (q := q) h1 h2; rw [← h, if_pos hq]
theorem dif_quo_f {q : Bool} {n : Nat} (h1 : (Builtin.Str.occurrences (Str.ofString "<>") ⟨#[n]⟩ 0 (Str.ofString "<>").length 1).isEmpty = true) (h2 : (Builtin.Str.occurrences (Str.ofString "\"'") ⟨#[n]⟩ 0 (Str.ofString "\"'").length 1).isEmpty = false) (hq : q = false) :
    [5] = difC q n := by have h := dif_quo (q := q) h1 h2; rw [← h, hq]; rfl
theorem dif_ang {q : Bool} {n : Nat} (h1 : (Builtin.Str.occurrences (Str.ofString "<>") ⟨#[n]⟩ 0 (Str.ofString "<>").length 1).isEmpty = false) : [0, 11, 0, 0] = difC q n := by
  rw [occ_lt, decide_eq_false_iff_not, Decidable.not_not] at h1
  unfold difC
  rw [if_pos h1]
theorem flat_one {α : Type} (k : Nat) (a : α) : (List.replicate k [a]).flatten = List.replicate k a := by
  induction k with
  | zero => rfl
  | succ k ih => rw [List.replicate_succ, List.flatten_cons, ih]; rfl
theorem diff_spec {w : World} {mean : ExcName → Option Value} {mg mb : Str → Option Value} (l : List Nat) (t : Tok) (q : Bool) (hl : l.length ≤ 100) (hok : ∀ c ∈ l, okPoint c) :
    Spec 2 w mean mg mb 136 [.str ⟨l.toArray⟩ t, .bool q] [] (fun t => .bytes (byteArr (difL q l)) t) := by
  w_on
  dsimp only [Spec, PR]
  k_fill
  intro news dp un gd cn cs a ccd cl outer A₀ base h₀ L m s Q E hB hF hK hN hT hk hd hu hret
  dsimp only [CbRet] at hret
  k_with_none
  k_with "mine1" => (k_here; (with_reducible show wpAny _ _ (call (Value.ref _) _ _) _ _ _); k_dflt (refine wpAny_call ?_; (refine' code_def ?k1 ?k2 ?k3 ?k4 ?k5 ?kA ?kF ?kK ?k6 ?k7 ?k8 ?k9 ?kB ?_ ?c2 ?c3 ?c4 ?c5; (case kA => exact rfl); (case kF => exact rfl); (case kK => first | exact rfl | assumption); (case k1 => k_asm); (case k2 => k_asm); (case k3 => k_asm); (case k4 => k_asm); (case k5 => k_asm); (case k6 => k_is); (case k7 => k_is); (case k8 => ktr_room); (case k9 => first | exact BindsTo.of_eq rfl | exact binds_K (by k_in) rfl (by k_is) rfl rfl rfl | fail "k_enter: no rule for these arguments"); (case c5 => decide); (case kB => exact locs rfl); (case c2 => exact rfl); (case c3 => exact rfl); (case c4 => exact rfl); k_whole; intro _ _ _ _ _ _ zzB' _ _; (try dsimp only); (try k_lift zzB'); (try k_fold))))
  k_with "mine2" => ((with_reducible show wpAny _ _ (call (Value.type "type") [Value.bytes _ _]) _ _ _); refine call_type_of (Tx := "bytes") rfl (by decide +kernel) ?_)
  k_with "mine3" => ((with_reducible show wpAny _ _ (call (Value.type "type") [Value.str _ _]) _ _ _); refine call_type_of (Tx := "str") rfl (by decide +kernel) ?_)
  k_with "mine4" => ((with_reducible show wpAny _ _ (call (Value.type "type") [Value.bool _]) _ _ _); refine call_type_of (Tx := "bool") rfl (by decide +kernel) ?_)
  k_with "mine5" => ((with_reducible show wpAny _ _ (compareOp CmpOp.Is (Value.type _) (Value.type _)) _ _ _); first | refine wpAny_is_self (by rfl) ?_ | refine wpAny_is_other (by rfl) (by intro zzz; exact absurd (Value.type.inj zzz) (by decide)) ?_)
  k_with "mine6" => ((with_reducible show wpAny _ _ (subscriptTail _ _ (Value.bytes _ _) (Value.int _ _)) _ _ _); first
    | refine sub_b64 (band_in _ (by decide)).1 (Int.lt_of_le_of_lt (band_in _ (by decide)).2 (by decide)) ?_
    | refine sub_b64 (band_3 _).1 (band_3 _).2 ?_
    | refine sub_b64 (band_15 _).1 (band_15 _).2 ?_)
  k_with "mine7" => (k_here; k_dflt (refine' append_K ?k1 ?k2 ?k3 ?_ ?z; (case k1 => k_asm); (case k2 => k_asm); (case k3 => k_upd); (case z => size_fits); k_whole); intro _ _ _; (try k_sweep))
  k_with "mine8" => ((with_reducible show wpAny _ _ (binaryOp Operator.LShift (Value.int (Builtin.bitAnd _ _) _) (Value.int _ _)) _ _ _); refine lshift_int_small (by decide) (by decide) (band_abs _ (by decide) (by decide)) ?_)
  k_with "mine9" => repeat' ((fail_if_success (with_reducible show InvEndN _ _ _ _ _ _ _)); first | (k_unfold; (try dsimp only)) | (k_end; wrow_close) | walk1 | (dsimp only; walk1) | (leave1; walk_say "STEP leave1"; try dsimp only) | fail "no step")
  k_with "mine19" => repeat' ((fail_if_success (with_reducible show InvEndN _ _ _ _ _ _ _)); first | (k_unfold; (try dsimp only)) | (k_end; wrow_close) | (walk1; (try dsimp only)) | (dsimp only; walk1) | (leave1; walk_say "STEP leave1"; try dsimp only) | fail "no step")
  k_with "mine20" => (k_here; k_dflt (refine' extend_small ?F ?N ?b ?ne ?U ?hv ?hu ?_; (case F => k_asm); (case N => k_asm); (case b => k_mem); (case ne => first | exact Nat.succ_ne_zero _ | assumption); (case U => k_upd); (case hv => omega); (case hu => first | (simp only [List.length_cons, List.length_nil]; omega) | assumption); k_whole); intro _ _ zzN'; (try dsimp only at zzN'); (try k_sweep))
  k_with "state" => exact pdif_nil _
  k_with "pyIter str" => fail "mine"
  w_strict (refine wpAny_call ?_; k_dflt cell_enter; k_steps)
  obtain ⟨ks, hks⟩ : ∃ ks, KStt.codes ⟨l.toArray⟩ = ks := ⟨_, rfl⟩
  have hI0 : IntsAre [] [] := IntsAre.nil
  have hL : (⟨l.toArray⟩ : Str).length = l.length := by simp [Str.length]
  k_state (fun pre out => Pdif q pre out) "octets"
  · have hP := kInv
    obtain ⟨-, h1, h2⟩ := kInv
    have hokN := hok kN (codes_mem kEq)
    w_strict ktn_open
    · (rename News _ _ _ _ => nE'); (try simp only [List.push_toArray] at nE')
      refine kst_end ⟨_, _, _⟩ (by assumption) nE' (by first | kst_in | kst_inAny) (by first | (intro p hp; kst_mem) | kst_anyIn) (by rfl) (IntsAre.append kFacts (.cons _ _ (.cons _ _ (.cons _ _ (.cons _ _ (.cons _ _ .nil)))))) (by kst_all) (by kst_same) ?_
      refine pdif_step hP ?_
      exact dif_amp (by assumption) (by assumption) (by assumption)
    · refine call_encode_utf8 (x := ⟨#[kN]⟩) ?_ ?_ ?_
      · intro c hc
        have e : c = kN := by simpa using hc
        rw [e]; exact hokN
      · have := utf8Of_len kN
        simp [utf8b]; omega
      intro t7 k7
      have e8 : utf8b (⟨#[kN]⟩ : Str).cps.toList = Str.utf8Of kN := by simp [utf8b]
      rw [e8]
      have hu8 := utf8Of_len kN
      have hu9 : 0 < (Str.utf8Of kN).length := List.length_pos_iff.mpr (utf8Of_ne kN)
      w_strict ktn_open
      (rename IntsAre _ _ => i9)
      have f9 : (List.replicate (((Str.utf8Of kN).toArray.size : Int)).toNat [(0 : Int)]).flatten = List.replicate (Str.utf8Of kN).length 0 := by
        rw [Int.toNat_natCast, List.size_toArray]
        exact flat_one _ _
      rw [f9] at i9
      have g9 := i9.length
      rw [List.length_replicate] at g9
      k_here
      refine' extend_small ?F ?N ?b ?ne ?U ?hv ?hu ?_
      case F => k_asm
      case N => k_asm
      case b => k_mem
      case ne => rw [g9]; omega
      case U => k_upd
      case hv => omega
      case hu => rw [g9]; omega
      intro h9 F9 N9
      (try dsimp only at N9)
      w_strict ktn_open
      refine kst_end ⟨_, _, _⟩ (by assumption) N9 (by first | kst_in | kst_inAny) (by first | (intro p hp; kst_mem) | kst_anyIn) (by rfl) (IntsAre.append kFacts i9) (by kst_all) (by kst_same) ?_
      exact pdif_step hP (dif_else (by assumption) (by assumption) (by assumption))
    · (rename News _ _ _ _ => nE'); (try simp only [List.push_toArray] at nE')
      refine kst_end ⟨_, _, _⟩ (by assumption) nE' (by first | kst_in | kst_inAny) (by first | (intro p hp; kst_mem) | kst_anyIn) (by rfl) (IntsAre.append kFacts (.cons _ _ (.cons _ _ (.cons _ _ (.cons _ _ (.cons _ _ (.cons _ _ .nil))))))) (by kst_all) (by kst_same) ?_
      refine pdif_step hP ?_
      exact dif_quo_t (by assumption) (by assumption) (by assumption)
    · (rename News _ _ _ _ => nE'); (try simp only [List.push_toArray] at nE')
      refine kst_end ⟨_, _, _⟩ (by assumption) nE' (by first | kst_in | kst_inAny) (by first | (intro p hp; kst_mem) | kst_anyIn) (by rfl) (IntsAre.append kFacts (.cons _ _ .nil)) (by kst_all) (by kst_same) ?_
      refine pdif_step hP ?_
      exact dif_quo_f (by assumption) (by assumption) (by assumption)
    · (rename News _ _ _ _ => nE'); (try simp only [List.push_toArray] at nE')
      refine kst_end ⟨_, _, _⟩ (by assumption) nE' (by first | kst_in | kst_inAny) (by first | (intro p hp; kst_mem) | kst_anyIn) (by rfl) (IntsAre.append kFacts (.cons _ _ (.cons _ _ (.cons _ _ (.cons _ _ .nil))))) (by kst_all) (by kst_same) ?_
      refine pdif_step hP ?_
      exact dif_ang (by assumption)
  · have hP := kInv
    obtain ⟨h1, h2, h3⟩ := kInv
    w_strict k_steps
    (rename News _ _ _ _ => nE')
    have hkl : (KStt.codes ⟨l.toArray⟩).length = l.length := by rw [KStt.codes_length]; exact hL
    refine bytes_made (by k_asm) nE' rfl kFacts h3 (by omega) ?_
    intro h' t' k' F' N'
    w_strict k_steps
    rw [codes_toNat] at h1
    subst h1
    exact hret _ _ _ (by k_asm) (by k_asm)
end
section
/-- the sign of a number -/
noncomputable def ptOf (x : Int) : Nat := let p := (Int.fmod (Int.fdiv x 12) 1112064).toNat; if p < 55296 then p else p + 2048
noncomputable def sgnOf (x : Int) : Nat := if Int.fmod x 12 < 11 then [60, 62, 34, 39, 38, 59, 35, 108, 103, 116, 97].getD (Int.fmod x 12).toNat 0 else ptOf x
noncomputable def textL (ns : List Int) : List Nat := [60, 39, 38, 0x83e, 0x83f] ++ (ns.take 14).map sgnOf
noncomputable def Ptx (pre : List Int) (x : Str) : Prop := x = ⟨([60, 39, 38, 0x83e, 0x83f] ++ pre.map sgnOf).toArray⟩ ∧ x.length = 5 + pre.length
theorem ptx_nil : Ptx [] (Str.ofString "<'&࠾\u083f") := ⟨by decide, by decide⟩
theorem ptx_step {pre : List Int} {x y : Str} {n : Int} (h : Ptx pre x) (hy : y = ⟨#[sgnOf n]⟩) : Ptx (pre ++ [n]) (x ++ y) := by
  obtain ⟨rfl, h2⟩ := h
  subst hy
  refine ⟨?_, by rw [Str.length_append, h2]; simp [Str.length]; omega⟩
  refine Str.ext' (Array.toList_inj.mp ?_)
  rw [Str.cps_append, Array.toList_append]
  simp
theorem below_11 {r : Int} (h0 : 0 ≤ r) (h : r < 11) : ∃ k : Nat, k < 11 ∧ r = k := ⟨r.toNat, by omega, by omega⟩
theorem txt_w1 {n : Int} (h : n.fmod 12 < 11) : Txt.item (Str.ofString "<>\"'&;#lgta") (n.fmod 12) = ⟨#[sgnOf n]⟩ := by
  have h0 : 0 ≤ n.fmod 12 := Int.fmod_nonneg_of_pos _ (by decide)
  unfold sgnOf
  rw [if_pos h]
  obtain ⟨k, hk, e⟩ := below_11 h0 h
  rw [e]
  clear e h0 h
  revert k
  decide +kernel
theorem txt_w2 {n : Int} (h : ¬ n.fmod 12 < 11) (h2 : (n.fdiv 12).fmod 1112064 < 55296) : (⟨#[((n.fdiv 12).fmod 1112064).toNat]⟩ : Str) = ⟨#[sgnOf n]⟩ := by
  have e : ((n.fdiv 12).fmod 1112064).toNat = sgnOf n := by
    unfold sgnOf ptOf
    rw [if_neg h]
    dsimp only
    rw [if_pos (by omega)]
  rw [e]
theorem txt_w3 {n : Int} (h : ¬ n.fmod 12 < 11) (h2 : ¬ (n.fdiv 12).fmod 1112064 < 55296) : (⟨#[((n.fdiv 12).fmod 1112064 + 2048).toNat]⟩ : Str) = ⟨#[sgnOf n]⟩ := by
  have e : ((n.fdiv 12).fmod 1112064 + 2048).toNat = sgnOf n := by
    unfold sgnOf ptOf
    rw [if_neg h]
    dsimp only
    rw [if_neg (by omega)]
    omega
  rw [e]
local macro_rules | `(tactic| walk_at "exec For") => `(tactic| k_extra "mine21")
theorem text_spec {w : World} {mean : ExcName → Option Value} {mg mb : Str → Option Value} (S : Addr) (vs : List Value) (ns : List Int) (hi : IntsAre vs ns) (hn : ns.length ≤ 63)
    (news : List (Addr × Obj)) (dp un : Nat) (gd : Option (List Code)) (cn : Str) (cs : Scope) (a : Addr) (ccd : Value) (cl : List (Str × Addr)) (outer : List Env) (A₀ : Around) (base h₀ : Heap) (L : Addr) (m : Str → Option Value) (s : Shared) (Q E : Value → Shared → Prop)
    (hS : h₀.IsList S vs.toArray) (hB : Below A₀ base outer h₀) (hF : Fr h₀ L s.heap m) (hK : (hd.heap_39 w.params).In h₀) (hN : News h₀ L s.heap news) (hT : Top hd.view_39 LS mean mg mb h₀) (hk : cs.kind = .function)
    (hd : dp + 2 < recursionLimit) (hu : un + 8 * 2 < cLine) (hret : CbRet h₀ L m news s Q (fun t => .str ⟨(textL ns).toArray⟩ t)) :
      wpAny (model PR w) (ktrTop dp un gd cn cs L a ccd cl outer) (call (.ref 124) [.ref S] []) Q E s := by
  revert news dp un gd cn cs a ccd cl outer A₀ base h₀ L m s Q E hS hB hF hK hN hT hk hd hu hret
  w_on
  dsimp only [PR]
  k_fill
  intro news dp un gd cn cs a ccd cl outer A₀ base h₀ L m s Q E hS hB hF hK hN hT hk hd hu hret
  dsimp only [CbRet] at hret
  k_with_none
  k_with "mine1" => (k_here; (with_reducible show wpAny _ _ (call (Value.ref _) _ _) _ _ _); k_dflt (refine wpAny_call ?_; (refine' code_def ?k1 ?k2 ?k3 ?k4 ?k5 ?kA ?kF ?kK ?k6 ?k7 ?k8 ?k9 ?kB ?_ ?c2 ?c3 ?c4 ?c5; (case kA => exact rfl); (case kF => exact rfl); (case kK => first | exact rfl | assumption); (case k1 => k_asm); (case k2 => k_asm); (case k3 => k_asm); (case k4 => k_asm); (case k5 => k_asm); (case k6 => k_is); (case k7 => k_is); (case k8 => ktr_room); (case k9 => first | exact BindsTo.of_eq rfl | exact binds_K (by k_in) rfl (by k_is) rfl rfl rfl | fail "k_enter: no rule for these arguments"); (case c5 => decide); (case kB => exact locs rfl); (case c2 => exact rfl); (case c3 => exact rfl); (case c4 => exact rfl); k_whole; intro _ _ _ _ _ _ zzB' _ _; (try dsimp only); (try k_lift zzB'); (try k_fold))))
  k_with "mine2" => ((with_reducible show wpAny _ _ (call (Value.type "type") [Value.bytes _ _]) _ _ _); refine call_type_of (Tx := "bytes") rfl (by decide +kernel) ?_)
  k_with "mine3" => ((with_reducible show wpAny _ _ (call (Value.type "type") [Value.str _ _]) _ _ _); refine call_type_of (Tx := "str") rfl (by decide +kernel) ?_)
  k_with "mine4" => ((with_reducible show wpAny _ _ (call (Value.type "type") [Value.bool _]) _ _ _); refine call_type_of (Tx := "bool") rfl (by decide +kernel) ?_)
  k_with "mine5" => ((with_reducible show wpAny _ _ (compareOp CmpOp.Is (Value.type _) (Value.type _)) _ _ _); first | refine wpAny_is_self (by rfl) ?_ | refine wpAny_is_other (by rfl) (by intro zzz; exact absurd (Value.type.inj zzz) (by decide)) ?_)
  k_with "mine6" => ((with_reducible show wpAny _ _ (subscriptTail _ _ (Value.bytes _ _) (Value.int _ _)) _ _ _); first
    | refine sub_b64 (band_in _ (by decide)).1 (Int.lt_of_le_of_lt (band_in _ (by decide)).2 (by decide)) ?_
    | refine sub_b64 (band_3 _).1 (band_3 _).2 ?_
    | refine sub_b64 (band_15 _).1 (band_15 _).2 ?_)
  k_with "mine7" => (k_here; k_dflt (refine' append_K ?k1 ?k2 ?k3 ?_ ?z; (case k1 => k_asm); (case k2 => k_asm); (case k3 => k_upd); (case z => size_fits); k_whole); intro _ _ _; (try k_sweep))
  k_with "mine8" => ((with_reducible show wpAny _ _ (binaryOp Operator.LShift (Value.int (Builtin.bitAnd _ _) _) (Value.int _ _)) _ _ _); refine lshift_int_small (by decide) (by decide) (band_abs _ (by decide) (by decide)) ?_)
  k_with "mine9" => repeat' ((fail_if_success (with_reducible show InvEndN _ _ _ _ _ _ _)); first | (k_unfold; (try dsimp only)) | (k_end; wrow_close) | walk1 | (dsimp only; walk1) | (leave1; walk_say "STEP leave1"; try dsimp only) | fail "no step")
  k_with "mine19" => repeat' ((fail_if_success (with_reducible show InvEndN _ _ _ _ _ _ _)); first | (k_unfold; (try dsimp only)) | (k_end; wrow_close) | (walk1; (try dsimp only)) | (dsimp only; walk1) | (leave1; walk_say "STEP leave1"; try dsimp only) | fail "no step")
  k_with "mine21" => (k_here; (rename Fr _ _ _ _ => zzlF'); (with_unfolding_all refine' For_invVF zzlF' ?k1 ?k2 ?_ ?hs ?hE; (case k1 => exact rfl); (case k2 => exact rfl); (case hs => (intro _; kernel_rfl)); (case hE => passes_own); k_whole))
  k_with "state" => exact ptx_nil
  k_with "pyIter ref" => fail "mine"
  refine wpAny_call ?_
  k_dflt cell_enter
  clear hF
  have hS' := Fr.lst (by assumption) hS
  repeat' ((fail_if_success (with_reducible show wpAny _ _ (pyIter _) _ _ _)); first | (k_unfold; (try dsimp only)) | (k_end; wrow_close) | walk1 | (dsimp only; walk1) | (leave1; walk_say "STEP leave1"; try dsimp only) | fail "no step")
  (rename IntsAre _ (List.take 14 ns) => hI9)
  have hl9 : (List.take 14 ns).length ≤ 14 := by simp; omega
  k_state (fun pre x => Ptx pre x) "text"
  · have hP := kInv
    obtain ⟨-, h2⟩ := kInv
    w_strict ktn_open
    all_goals ((rename News _ _ _ _ => nE'); (try simp only [List.push_toArray] at nE'))
    · refine kst_end ⟨_, _⟩ (by assumption) nE' (by first | kst_in | kst_inAny) (by first | (intro p hp; kst_mem) | kst_anyIn) (by rfl) (by kst_facts) (by kst_all) (by kst_same) ?_
      exact ptx_step hP (txt_w1 (by assumption))
    · refine kst_end ⟨_, _⟩ (by assumption) nE' (by first | kst_in | kst_inAny) (by first | (intro p hp; kst_mem) | kst_anyIn) (by rfl) (by kst_facts) (by kst_all) (by kst_same) ?_
      exact ptx_step hP (txt_w2 (by assumption) (by assumption))
    · refine kst_end ⟨_, _⟩ (by assumption) nE' (by first | kst_in | kst_inAny) (by first | (intro p hp; kst_mem) | kst_anyIn) (by rfl) (by kst_facts) (by kst_all) (by kst_same) ?_
      exact ptx_step hP (txt_w3 (by assumption) (by assumption))
  · obtain ⟨h1, -⟩ := kInv
    w_strict k_steps
    have h2 : _ = (⟨(textL ns).toArray⟩ : Str) := h1
    rw [h2]
    exact hret _ _ _ (by k_asm) (cb_drop (by assumption) fun p hp => List.Mem.tail _ hp)
end
section
noncomputable def comL : List Nat := [65, 66, 67, 68, 69, 70, 71, 72, 73, 74, 75, 76, 77, 78, 79, 80, 81, 82, 83, 84, 85, 86, 87, 88, 89, 90, 97, 98, 99, 100, 101, 102, 103, 104, 105, 106, 107, 108, 109, 110, 111, 112, 113, 114, 115, 116, 117, 118, 119, 120, 121, 122, 48, 49, 50, 51, 52, 53, 54, 55, 56, 57, 43, 47]
noncomputable def safL : List Nat := [65, 66, 67, 68, 69, 70, 71, 72, 73, 74, 75, 76, 77, 78, 79, 80, 81, 82, 83, 84, 85, 86, 87, 88, 89, 90, 97, 98, 99, 100, 101, 102, 103, 104, 105, 106, 107, 108, 109, 110, 111, 112, 113, 114, 115, 116, 117, 118, 119, 120, 121, 122, 48, 49, 50, 51, 52, 53, 54, 55, 56, 57, 45, 95]
/-- the sign of a number in the common alphabet, 64 being the pad -/
noncomputable def comS (k : Nat) : Nat := comL.getD k 61
noncomputable def safS (k : Nat) : Nat := safL.getD k 61
noncomputable def xorS (a b : Nat) : Nat := if a = 64 then 64 else a ^^^ b
/-- two rows of numbers that go together: of one length, the pads at the same places -/
noncomputable def Mates : List Nat → List Nat → Prop
  | [], [] => True
  | a :: r, b :: q => ((a = 64 ∧ b = 64) ∨ (a < 64 ∧ b < 64)) ∧ Mates r q
  | _, _ => False
theorem mates_len : ∀ {r q : List Nat}, Mates r q → r.length = q.length
  | [], [], _ => rfl
  | [], _ :: _, h => h.elim
  | _ :: _, [], h => h.elim
  | _ :: r, _ :: q, h => by simp [mates_len h.2]
theorem mates_at : ∀ {r q : List Nat}, Mates r q → ∀ i, i < r.length → ∃ a b, r[i]? = some a ∧ q[i]? = some b ∧ ((a = 64 ∧ b = 64) ∨ (a < 64 ∧ b < 64))
  | [], [], _, i, h => by simp at h
  | [], _ :: _, h, _, _ => h.elim
  | _ :: _, [], h, _, _ => h.elim
  | a :: r, b :: q, h, 0, _ => ⟨a, b, rfl, rfl, h.1⟩
  | _ :: r, _ :: q, h, i + 1, hi => by
    obtain ⟨a, b, h1, h2, h3⟩ := mates_at h.2 i (by simpa using hi)
    exact ⟨a, b, by simpa using h1, by simpa using h2, h3⟩
noncomputable def togL (r q : List Nat) : List Nat := (List.zipWith xorS r q).map comS
noncomputable def Ptog (r q : List Nat) (pre : List Int) (ys : List Str) : Prop := ys = ((List.zipWith xorS r q).take pre.length).map (fun k => (⟨#[comS k]⟩ : Str)) ∧ ys.length = pre.length
theorem ptog_nil (r q : List Nat) : Ptog r q [] [] := ⟨by simp, rfl⟩
theorem ptog_step {r q : List Nat} {pre : List Int} {ys : List Str} {a b : Nat} {n : Int} {y : Str} (h : Ptog r q pre ys) (ha : r[pre.length]? = some a) (hb : q[pre.length]? = some b) (hy : y = ⟨#[comS (xorS a b)]⟩) : Ptog r q (pre ++ [n]) (ys ++ [y]) := by
  obtain ⟨rfl, h2⟩ := h
  subst hy
  refine ⟨?_, by rw [List.length_append, h2]; simp⟩
  have e : (List.zipWith xorS r q)[pre.length]? = some (xorS a b) := by
    rw [List.getElem?_zipWith, ha, hb]
  rw [List.length_append, List.length_singleton, List.take_add_one, e]
  simp
noncomputable abbrev CO : Str := Str.ofString "ABCDEFGHIJKLMNOPQRSTUVWXYZabcdefghijklmnopqrstuvwxyz0123456789+/"
noncomputable abbrev SA : Str := Str.ofString "ABCDEFGHIJKLMNOPQRSTUVWXYZabcdefghijklmnopqrstuvwxyz0123456789-_"
theorem co_eq : CO = ⟨comL.toArray⟩ := by decide +kernel
theorem sa_eq : SA = ⟨safL.toArray⟩ := by decide +kernel
theorem com_nodup : comL.Nodup := by decide +kernel
theorem saf_nodup : safL.Nodup := by decide +kernel
theorem com_at {k : Nat} (h : k < 64) : comL[k]? = some (comS k) := by
  unfold comS
  rw [List.getD_eq_getElem?_getD]
  have e : k < comL.length := h
  rw [List.getElem?_eq_getElem e]; rfl
theorem saf_at {k : Nat} (h : k < 64) : safL[k]? = some (safS k) := by
  unfold safS
  rw [List.getD_eq_getElem?_getD]
  have e : k < safL.length := h
  rw [List.getElem?_eq_getElem e]; rfl
theorem com_ne : ∀ c ∈ comL, c ≠ 61 := by decide +kernel
theorem saf_ne : ∀ c ∈ safL, c ≠ 61 := by decide +kernel
theorem com_find {k : Nat} (h : k < 64) : Txt.find CO ⟨#[comS k]⟩ = (k : Int) := by
  rw [co_eq]; exact find_at _ _ _ (com_at h) fun j hj => nodup_at com_nodup hj (com_at h)
theorem saf_find {k : Nat} (h : k < 64) : Txt.find SA ⟨#[safS k]⟩ = (k : Int) := by
  rw [sa_eq]; exact find_at _ _ _ (saf_at h) fun j hj => nodup_at saf_nodup hj (saf_at h)
theorem com_occ {k : Nat} (h : k < 64) : (Builtin.Str.occurrences CO ⟨#[comS k]⟩ 0 CO.length 1).isEmpty = false := by
  rw [co_eq, occ_one, decide_eq_false_iff_not, Decidable.not_not]
  exact List.mem_of_getElem? (com_at h)
theorem saf_occ {k : Nat} (h : k < 64) : (Builtin.Str.occurrences SA ⟨#[safS k]⟩ 0 SA.length 1).isEmpty = false := by
  rw [sa_eq, occ_one, decide_eq_false_iff_not, Decidable.not_not]
  exact List.mem_of_getElem? (saf_at h)
theorem eq_pad (n : Nat) : ((⟨#[n]⟩ : Str) == Str.ofString "=") = decide (n = 61) := by
  have e : (Str.ofString "=") = ⟨#[61]⟩ := by decide
  rw [e]; exact eq_one n 61
theorem com_pad {k : Nat} (h : k < 64) : ((⟨#[comS k]⟩ : Str) == Str.ofString "=") = false := by
  rw [eq_pad, decide_eq_false_iff_not]; exact com_ne _ (List.mem_of_getElem? (com_at h))
theorem saf_pad {k : Nat} (h : k < 64) : ((⟨#[safS k]⟩ : Str) == Str.ofString "=") = false := by
  rw [eq_pad, decide_eq_false_iff_not]; exact saf_ne _ (List.mem_of_getElem? (saf_at h))
theorem xor_lt {a b : Nat} (ha : a < 64) (hb : b < 64) : a ^^^ b < 64 := Nat.xor_lt_two_pow (n := 6) ha hb
theorem sub_com {prog : Program} {w : World} {A : Around} {E : Value → Shared → Prop} {s : Shared} {t u : Tok} {value slice : PySem.Expr} {i : Int} {k : Nat} {Q : Value → Shared → Prop} (hi : i = (k : Int)) (hk : k < 64) (h : Q (.str ⟨#[comS k]⟩ s.toks) { s with toks := s.toks + 1 })
    (hs : subscripted slice false (.str CO t) (.int i u) = operate [.str CO t, .int i u] (getItem (.str CO t) (.int i u)) := by with_unfolding_all rfl) (ht : ∀ r, letTemporaryGo value (.str CO t) r = pure () := by intro _; with_unfolding_all rfl) :
    wpAny (model prog w) A (subscriptTail value slice (.str CO t) (.int i u)) Q E s := by
  subst hi
  refine subscriptTail_builtin (typeIs_str _ _ _) F.slot_str_getitem.lookup (P.getItem_str (c := comS k) ?_ ?_ h) hs ht
  · simp; omega
  · rw [co_eq]
    exact StrLaws.at_nonneg (by omega) (by simpa using com_at hk)
theorem tf {P : Prop} {b : Bool} (k : b = false) (h : b = true) : P := by rw [h] at k; cases k
theorem or_split : ∀ x, x < 64 → ∀ y, y < 64 → (x ||| y) = (x ^^^ y) + (x &&& y) := by decide +kernel
theorem bxor_nat {x y : Nat} (hx : x < 64) (hy : y < 64) : Builtin.bitXor (x : Int) (y : Int) = ((x ^^^ y : Nat) : Int) := by
  unfold Builtin.bitXor
  rw [bor_nat, band_nat]
  have h := or_split x hx y hy
  omega
theorem together_spec {w : World} {mean : ExcName → Option Value} {mg mb : Str → Option Value} (r q : List Nat) (t u : Tok) (hm : Mates r q) (hl : r.length ≤ 200) :
    Spec 2 w mean mg mb 143 [.str ⟨(r.map comS).toArray⟩ t, .str ⟨(q.map safS).toArray⟩ u] [] (fun t => .str ⟨(togL r q).toArray⟩ t) := by
  w_on
  dsimp only [Spec, PR]
  k_fill
  intro news dp un gd cn cs a ccd cl outer A₀ base h₀ L m s Q E hB hF hK hN hT hk hd hu hret
  dsimp only [CbRet] at hret
  k_with_none
  k_with "mine1" => (k_here; (with_reducible show wpAny _ _ (call (Value.ref _) _ _) _ _ _); k_dflt (refine wpAny_call ?_; (refine' code_def ?k1 ?k2 ?k3 ?k4 ?k5 ?kA ?kF ?kK ?k6 ?k7 ?k8 ?k9 ?kB ?_ ?c2 ?c3 ?c4 ?c5; (case kA => exact rfl); (case kF => exact rfl); (case kK => first | exact rfl | assumption); (case k1 => k_asm); (case k2 => k_asm); (case k3 => k_asm); (case k4 => k_asm); (case k5 => k_asm); (case k6 => k_is); (case k7 => k_is); (case k8 => ktr_room); (case k9 => first | exact BindsTo.of_eq rfl | exact binds_K (by k_in) rfl (by k_is) rfl rfl rfl | fail "k_enter: no rule for these arguments"); (case c5 => decide); (case kB => exact locs rfl); (case c2 => exact rfl); (case c3 => exact rfl); (case c4 => exact rfl); k_whole; intro _ _ _ _ _ _ zzB' _ _; (try dsimp only); (try k_lift zzB'); (try k_fold))))
  k_with "mine2" => ((with_reducible show wpAny _ _ (call (Value.type "type") [Value.bytes _ _]) _ _ _); refine call_type_of (Tx := "bytes") rfl (by decide +kernel) ?_)
  k_with "mine3" => ((with_reducible show wpAny _ _ (call (Value.type "type") [Value.str _ _]) _ _ _); refine call_type_of (Tx := "str") rfl (by decide +kernel) ?_)
  k_with "mine4" => ((with_reducible show wpAny _ _ (call (Value.type "type") [Value.bool _]) _ _ _); refine call_type_of (Tx := "bool") rfl (by decide +kernel) ?_)
  k_with "mine5" => ((with_reducible show wpAny _ _ (compareOp CmpOp.Is (Value.type _) (Value.type _)) _ _ _); first | refine wpAny_is_self (by rfl) ?_ | refine wpAny_is_other (by rfl) (by intro zzz; exact absurd (Value.type.inj zzz) (by decide)) ?_)
  k_with "mine6" => ((with_reducible show wpAny _ _ (subscriptTail _ _ (Value.bytes _ _) (Value.int _ _)) _ _ _); first
    | refine sub_b64 (band_in _ (by decide)).1 (Int.lt_of_le_of_lt (band_in _ (by decide)).2 (by decide)) ?_
    | refine sub_b64 (band_3 _).1 (band_3 _).2 ?_
    | refine sub_b64 (band_15 _).1 (band_15 _).2 ?_)
  k_with "mine7" => (k_here; k_dflt (refine' append_K ?k1 ?k2 ?k3 ?_ ?z; (case k1 => k_asm); (case k2 => k_asm); (case k3 => k_upd); (case z => size_fits); k_whole); intro _ _ _; (try k_sweep))
  k_with "mine8" => ((with_reducible show wpAny _ _ (binaryOp Operator.LShift (Value.int (Builtin.bitAnd _ _) _) (Value.int _ _)) _ _ _); refine lshift_int_small (by decide) (by decide) (band_abs _ (by decide) (by decide)) ?_)
  k_with "mine9" => repeat' ((fail_if_success (with_reducible show InvEndN _ _ _ _ _ _ _)); first | (k_unfold; (try dsimp only)) | (k_end; wrow_close) | walk1 | (dsimp only; walk1) | (leave1; walk_say "STEP leave1"; try dsimp only) | fail "no step")
  k_with "mine19" => repeat' ((fail_if_success (with_reducible show InvEndN _ _ _ _ _ _ _)); first | (k_unfold; (try dsimp only)) | (k_end; wrow_close) | (walk1; (try dsimp only)) | (dsimp only; walk1) | (leave1; walk_say "STEP leave1"; try dsimp only) | fail "no step")
  have hL1 : (⟨(r.map comS).toArray⟩ : Str).length = r.length := by simp [Str.length]
  have hL2 : (⟨(q.map safS).toArray⟩ : Str).length = r.length := by simp [Str.length, mates_len hm]
  k_with "state" => exact ptog_nil _ _
  k_with "pyIter ref" => fail "mine"
  refine wpAny_call ?_
  k_dflt cell_enter
  repeat' ((fail_if_success (with_reducible show wpAny _ _ (pyIter _) _ _ _)); first | (k_unfold; (try dsimp only)) | (k_end; wrow_close) | walk1 | (dsimp only; walk1) | (leave1; walk_say "STEP leave1"; try dsimp only) | fail "no step")
  · exfalso; omega
  (rename IsRange _ _ _ _ _ _ _ _ => rgY)
  rename_i x0 x1 lA x3 x4 x5 x6 x7 x8 x9 x10 x11 x12 lF lN x15
  dsimp only at rgY ⊢
  rw [hL1] at rgY
  have z1 : Builtin.Range.small 0 (↑r.length) 1 = true := small_one (by omega) (by omega) (by omega) (by omega)
  have z2 : Builtin.Range.rangeSize 0 (r.length : Int) 1 = ((r.length : Nat) : Int) := by rw [rangeSize_nat]; omega
  refine kst_range (σ := List Value × List Str × Nat) (fun c => (lA, W.listOf c.1.toArray c.2.2) :: news) (fun _ => []) (fun c => StrsAre c.1 c.2.1) [] (fun pre c => Ptog r q pre c.2.1) ([], [], 0) rfl rgY z1 z2 lF lN .nil (List.forall_mem_nil _) (ptog_nil _ _) ?_ ?_
  · rintro ⟨us, ys, cn9⟩ kPre kN kT kU kH kTk kOwn kEq kLt kOff kFacts kInv kFr kNews
    dsimp only at kFacts kInv kFr kNews
    simp only [List.cons_append] at kNews
    simp only [List.map_cons] at kOff
    dsimp only
    have hP := kInv
    obtain ⟨-, h2⟩ := kInv
    obtain ⟨a9, b9, ha, hb, hab⟩ := mates_at hm kPre.length (by omega)
    have hMk := kstMark
    have hus := kFacts.length
    have e1 : Txt.item ⟨(r.map comS).toArray⟩ kN = ⟨#[comS a9]⟩ := item_at _ _ _ (by omega) (by rw [kEq]; simp [ha])
    have e2 : Txt.item ⟨(q.map safS).toArray⟩ kN = ⟨#[safS b9]⟩ := item_at _ _ _ (by omega) (by rw [kEq]; simp [hb])
    clear lF lN x6 x7
    rcases hab with ⟨rfl, rfl⟩ | ⟨h64, k64⟩
    · have f1 : (Txt.item ⟨(r.map comS).toArray⟩ kN == Str.ofString "=") = true := by rw [e1]; decide
      have f2 : (Txt.item ⟨(q.map safS).toArray⟩ kN == Str.ofString "=") = true := by rw [e2]; decide
      w_strict ktn_open
      (rename News _ _ _ _ => nE'); (try simp only [List.push_toArray] at nE')
      refine kst_end ⟨_, _, _⟩ (by assumption) nE' (by first | kst_in | kst_inAny) (by first | (intro p hp; kst_mem) | kst_anyIn) (by rfl) (PyProof.Rows.StrsAre.append' kFacts (.cons _ _ .nil)) (by kst_all) (by intro z h1 h2 h3; simp [kstB, h1]) ?_
      exact ptog_step hP ha hb (by decide)
    · have f1 : (Txt.item ⟨(r.map comS).toArray⟩ kN == Str.ofString "=") = false := by rw [e1]; exact com_pad h64
      have f3 : (Builtin.Str.occurrences CO (Txt.item ⟨(r.map comS).toArray⟩ kN) 0 CO.length 1).isEmpty = false := by rw [e1]; exact com_occ h64
      have f4 : (Builtin.Str.occurrences SA (Txt.item ⟨(q.map safS).toArray⟩ kN) 0 SA.length 1).isEmpty = false := by rw [e2]; exact saf_occ k64
      w_strict ktn_open
      · exact tf f3 (by assumption)
      · exact tf f4 (by assumption)
      rw [e1, e2]
      refine sub_com (k := a9 ^^^ b9) (by rw [com_find h64, saf_find k64, bxor_nat h64 k64]) (xor_lt h64 k64) ?_
      w_strict ktn_open
      (rename News _ _ _ _ => nE'); (try simp only [List.push_toArray] at nE')
      refine kst_end ⟨_, _, _⟩ (by assumption) nE' (by first | kst_in | kst_inAny) (by first | (intro p hp; kst_mem) | kst_anyIn) (by rfl) (PyProof.Rows.StrsAre.append' kFacts (.cons _ _ .nil)) (by kst_all) (by intro z h1 h2 h3; simp [kstB, h1]) ?_
      exact ptog_step hP ha hb (by unfold xorS; rw [if_neg (by omega)])
  · rintro ⟨us, ys, cn9⟩ kU kH kTk kFacts kInv kFr kNews
    dsimp only at kFacts kInv kFr kNews
    dsimp only
    clear lF lN x6 x7
    w_strict ktn_open
    have hz : (List.zipWith xorS r q).length = r.length := by rw [List.length_zipWith, mates_len hm]; omega
    have hys : ys = (togL r q).map fun c => (⟨#[c]⟩ : Str) := by
      rw [kInv.1, rangeKs_length, List.take_of_length_le (by omega)]
      unfold togL
      rw [List.map_map]; rfl
    rw [hys] at kFacts
    refine call_join1 (by decide) (News.isList kNews (List.Mem.head _)) kFacts (by unfold togL; simp; omega) ?_
    intro t' k'
    w_strict ktn_open

    exact hret _ _ _ (by k_asm) (cb_drop (by assumption) fun p hp => List.Mem.tail _ hp)
end
end
end
section
/-- the sextets of a row of octets, 64 for a pad -/
noncomputable def sx : List Nat → List Nat
  | a :: b :: c :: r => a / 4 :: (a % 4 * 16 + b / 16) :: (b % 16 * 4 + c / 64) :: c % 64 :: sx r
  | [a, b] => [a / 4, a % 4 * 16 + b / 16, b % 16 * 4, 64]
  | [a] => [a / 4, a % 4 * 16, 64, 64]
  | [] => []
noncomputable def IL (l : List Nat) : List Int := List.map (fun (n : Nat) => (n : Int)) l
theorem IL_nil : IL [] = [] := rfl
theorem IL_cons (a : Nat) (l : List Nat) : IL (a :: l) = (a : Int) :: IL l := rfl
theorem IL_append (a b : List Nat) : IL (a ++ b) = IL a ++ IL b := by simp [IL]
theorem fdiv_nat (L : Nat) (k : Nat) : (L : Int).fdiv (2 ^ k) = ((L / 2 ^ k : Nat) : Int) := by
  have e : (2 : Int) ^ k = ((2 ^ k : Nat) : Int) := by simp
  rw [e]; exact (Int.ofNat_fdiv _ _).symm
theorem lc_next (lc a : Nat) (ha : a < 256) : Builtin.bitAnd (Builtin.bitOr ((lc : Int) * 2 ^ Int.toNat 8) (a : Int)) 65535 = ((lc % 256 * 256 + a : Nat) : Int) := by
  have e1 : ((lc : Int) * 2 ^ Int.toNat 8) = ((2 ^ 8 * lc : Nat) : Int) := by
    rw [show Int.toNat 8 = 8 from rfl]; push_cast; omega
  have e2 : ((65535 : Int)) = ((65535 : Nat) : Int) := rfl
  rw [e1, bor_nat, e2, band_nat, ← Nat.two_pow_add_eq_or_of_lt (i := 8) ha, show (65535 : Nat) = 2 ^ 16 - 1 from rfl, Nat.and_two_pow_sub_one_eq_mod]
  congr 1
  omega
theorem shr_and (L : Nat) (k : Nat) : Builtin.bitAnd ((L : Int).fdiv (2 ^ k)) 63 = ((L / 2 ^ k % 64 : Nat) : Int) := by
  have e1 := fdiv_nat L k
  have e2 : ((63 : Int)) = ((63 : Nat) : Int) := rfl
  rw [e1, e2, band_nat, show (63 : Nat) = 2 ^ 6 - 1 from rfl, Nat.and_two_pow_sub_one_eq_mod]
theorem b64c_com : ∀ k, k < 64 → b64c ((k : Nat) : Int) = ((comS k : Nat) : Int) := by decide +kernel
theorem b64v_com : ∀ k, k < 64 → b64v ((comS k : Nat) : Int) = ((k : Nat) : Int) := by decide +kernel
theorem com_61 : ∀ k, k < 64 → ((comS k : Nat) : Int) ≠ 61 := by decide +kernel
theorem com_64 : ((comS 64 : Nat) : Int) = 61 := by decide
theorem enc_0 (lc a : Nat) (out : List Int) (ha : a < 256) : encStep (0, (lc : Int), out) (a : Int) = (2, ((lc % 256 * 256 + a : Nat) : Int), out ++ [((comS (a / 4) : Nat) : Int)]) := by
  unfold encStep
  dsimp only
  rw [lc_next lc a ha, if_pos rfl, show Int.toNat 2 = 2 from rfl, shr_and, b64c_com _ (Nat.mod_lt _ (by decide))]
  rw [show (lc % 256 * 256 + a) / 2 ^ 2 % 64 = a / 4 by omega]
theorem enc_2 (lc a : Nat) (out : List Int) (ha : a < 256) : encStep (2, (lc : Int), out) (a : Int) = (4, ((lc % 256 * 256 + a : Nat) : Int), out ++ [((comS (lc % 4 * 16 + a / 16) : Nat) : Int)]) := by
  unfold encStep
  dsimp only
  rw [lc_next lc a ha, if_neg (by decide), if_pos rfl, show Int.toNat 4 = 4 from rfl, shr_and, b64c_com _ (Nat.mod_lt _ (by decide))]
  rw [show (lc % 256 * 256 + a) / 2 ^ 4 % 64 = lc % 4 * 16 + a / 16 by omega]
theorem enc_4 (lc a : Nat) (out : List Int) (ha : a < 256) : encStep (4, (lc : Int), out) (a : Int) = (0, ((lc % 256 * 256 + a : Nat) : Int), out ++ [((comS (lc % 16 * 4 + a / 64) : Nat) : Int)] ++ [((comS (a % 64) : Nat) : Int)]) := by
  unfold encStep
  dsimp only
  rw [lc_next lc a ha, if_neg (by decide), if_neg (by decide), show Int.toNat 6 = 6 from rfl, show Int.toNat 0 = 0 from rfl, shr_and, shr_and, b64c_com _ (Nat.mod_lt _ (by decide)), b64c_com _ (Nat.mod_lt _ (by decide))]
  rw [show (lc % 256 * 256 + a) / 2 ^ 6 % 64 = lc % 16 * 4 + a / 64 by omega, show (lc % 256 * 256 + a) / 2 ^ 0 % 64 = a % 64 by omega]
theorem end_2 (lc : Nat) (out : List Int) : encEnd (2, (lc : Int), out) = out ++ IL (([lc % 4 * 16, 64, 64] : List Nat).map comS) := by
  unfold encEnd
  dsimp only
  have e : Builtin.bitAnd (lc : Int) 3 * 2 ^ Int.toNat 4 = ((lc % 4 * 16 : Nat) : Int) := by
    rw [show ((3 : Int)) = ((3 : Nat) : Int) from rfl, band_nat, show (3 : Nat) = 2 ^ 2 - 1 from rfl, Nat.and_two_pow_sub_one_eq_mod, show Int.toNat 4 = 4 from rfl]; push_cast; omega
  rw [if_pos rfl, e, b64c_com _ (by omega)]
  simp [IL, com_64]
theorem end_4 (lc : Nat) (out : List Int) : encEnd (4, (lc : Int), out) = out ++ IL (([lc % 16 * 4, 64] : List Nat).map comS) := by
  unfold encEnd
  dsimp only
  have e : Builtin.bitAnd (lc : Int) 15 * 2 ^ Int.toNat 2 = ((lc % 16 * 4 : Nat) : Int) := by
    rw [show ((15 : Int)) = ((15 : Nat) : Int) from rfl, band_nat, show (15 : Nat) = 2 ^ 4 - 1 from rfl, Nat.and_two_pow_sub_one_eq_mod, show Int.toNat 2 = 2 from rfl]; push_cast; omega
  rw [if_neg (by decide), if_pos rfl, e, b64c_com _ (by omega)]
  simp [IL, com_64]
-- the sextets' bounds and the octets back, once
theorem b_1 {a : Nat} (h : a < 256) : a / 4 < 64 := by omega
theorem b_2 {a b : Nat} (h : b < 256) : a % 4 * 16 + b / 16 < 64 := by omega
theorem b_2e {a : Nat} : a % 4 * 16 < 64 := by omega
theorem b_3 {b c : Nat} (h : c < 256) : b % 16 * 4 + c / 64 < 64 := by omega
theorem b_3e {b : Nat} : b % 16 * 4 < 64 := by omega
theorem b_4 {c : Nat} : c % 64 < 64 := Nat.mod_lt _ (by decide)
theorem f_1 {a b : Nat} (h : b < 256) : a / 4 * 4 + (a % 4 * 16 + b / 16) / 16 = a := by omega
theorem f_1e {a : Nat} : a / 4 * 4 + a % 4 * 16 / 16 = a := by omega
theorem f_2 {a b c : Nat} (h : b < 256) (k : c < 256) : (a % 4 * 16 + b / 16) % 16 * 16 + (b % 16 * 4 + c / 64) / 4 = b := by omega
theorem f_2e {a b : Nat} (h : b < 256) : (a % 4 * 16 + b / 16) % 16 * 16 + b % 16 * 4 / 4 = b := by omega
theorem f_3 {b c : Nat} (k : c < 256) : (b % 16 * 4 + c / 64) % 4 * 64 + c % 64 = c := by omega
theorem g_1 {lc a : Nat} : (lc % 256 * 256 + a) % 4 * 16 = a % 4 * 16 := by omega
theorem g_2 {lc a b : Nat} : (lc % 256 * 256 + a) % 4 * 16 + b / 16 = a % 4 * 16 + b / 16 := by rw [g_1]
theorem g_3 {lc b : Nat} : (lc % 256 * 256 + b) % 16 * 4 = b % 16 * 4 := by omega
theorem g_4 {lc b c : Nat} : (lc % 256 * 256 + b) % 16 * 4 + c / 64 = b % 16 * 4 + c / 64 := by rw [g_3]
theorem enc_sx : ∀ (A : List Nat) (lc : Nat) (out : List Int), (∀ a ∈ A, a < 256) → encEnd ((IL A).foldl encStep (0, (lc : Int), out)) = out ++ IL ((sx A).map comS)
  | [], lc, out, _ => by simp [encEnd, sx, IL]
  | [a], lc, out, h => by
    have ha := h a (by simp)
    simp only [IL_cons, IL_nil, List.map_cons, List.map_nil, List.foldl_cons, List.foldl_nil, enc_0 lc a out ha, end_2, sx]
    rw [g_1]
    simp
  | [a, b], lc, out, h => by
    have ha := h a (by simp)
    have hb := h b (by simp)
    simp only [IL_cons, IL_nil, List.map_cons, List.map_nil, List.foldl_cons, List.foldl_nil, enc_0 lc a out ha, enc_2 _ b _ hb, end_4, sx]
    rw [g_2, g_3]
    simp
  | a :: b :: c :: r, lc, out, h => by
    have ha := h a (by simp)
    have hb := h b (by simp)
    have hc := h c (by simp)
    simp only [IL_cons, List.map_cons, List.foldl_cons, enc_0 lc a out ha, enc_2 _ b _ hb, enc_4 _ c _ hc, sx]
    rw [enc_sx r _ _ (fun x hx => h x (by simp [hx]))]
    rw [g_2, g_4]
    simp
theorem encInts_sx (A : List Nat) (h : ∀ a ∈ A, a < 256) : encInts (IL A) = IL ((sx A).map comS) := by
  have := enc_sx A 0 [] h
  simpa [encInts] using this
-- the reading
section
variable {out : List Int} {k p : Nat}
theorem dec_0 {lc : Int} (hk : k < 64) : decStep (out, 0, lc, 0) ((comS k : Nat) : Int) = some (out, 1, (k : Int), 0) := by
  unfold decStep
  dsimp only
  rw [if_neg (com_61 k hk), b64v_com k hk, if_neg (by omega), if_neg (by omega), if_pos rfl]
theorem dec_1 (hk : k < 64) : decStep (out, 1, (p : Int), 0) ((comS k : Nat) : Int) = some (out ++ [((p * 4 + k / 16 : Nat) : Int)], 2, ((k % 16 : Nat) : Int), 0) := by
  have e1 : ((p : Int) * 2 ^ Int.toNat 2) = ((2 ^ 2 * p : Nat) : Int) := by
    rw [show Int.toNat 2 = 2 from rfl]; push_cast; omega
  have e2 : (15 : Int) = ((15 : Nat) : Int) := rfl
  unfold decStep
  dsimp only
  rw [if_neg (com_61 k hk), b64v_com k hk, if_neg (by omega), if_neg (by omega), if_neg (by omega), if_pos rfl, e1, show Int.toNat 4 = 4 from rfl, fdiv_nat, bor_nat, e2, band_nat,
    ← Nat.two_pow_add_eq_or_of_lt (i := 2) (by omega), show (15 : Nat) = 2 ^ 4 - 1 from rfl, Nat.and_two_pow_sub_one_eq_mod]
  rw [show 2 ^ 2 * p + k / 2 ^ 4 = p * 4 + k / 16 by omega]
theorem dec_2 (hk : k < 64) : decStep (out, 2, (p : Int), 0) ((comS k : Nat) : Int) = some (out ++ [((p * 16 + k / 4 : Nat) : Int)], 3, ((k % 4 : Nat) : Int), 0) := by
  have e1 : ((p : Int) * 2 ^ Int.toNat 4) = ((2 ^ 4 * p : Nat) : Int) := by
    rw [show Int.toNat 4 = 4 from rfl]; push_cast; omega
  have e2 : (3 : Int) = ((3 : Nat) : Int) := rfl
  unfold decStep
  dsimp only
  rw [if_neg (com_61 k hk), b64v_com k hk, if_neg (by omega), if_neg (by omega), if_neg (by omega), if_neg (by omega), if_pos rfl, e1, show Int.toNat 2 = 2 from rfl, fdiv_nat, bor_nat, 
    ← Nat.two_pow_add_eq_or_of_lt (i := 4) (by omega)]
  rw [show 2 ^ 4 * p + k / 2 ^ 2 = p * 16 + k / 4 by omega]
  have e3 : Builtin.bitAnd ((k : Nat) : Int) 3 = ((k % 4 : Nat) : Int) := by
    rw [e2, band_nat, show (3 : Nat) = 2 ^ 2 - 1 from rfl, Nat.and_two_pow_sub_one_eq_mod]
  rw [e3]
theorem dec_3 (hk : k < 64) : decStep (out, 3, (p : Int), 0) ((comS k : Nat) : Int) = some (out ++ [((p * 64 + k : Nat) : Int)], 0, 0, 0) := by
  have e1 : ((p : Int) * 2 ^ Int.toNat 6) = ((2 ^ 6 * p : Nat) : Int) := by
    rw [show Int.toNat 6 = 6 from rfl]; push_cast; omega
  unfold decStep
  dsimp only
  rw [if_neg (com_61 k hk), b64v_com k hk, if_neg (by omega), if_neg (by omega), if_neg (by omega), if_neg (by omega), if_neg (by omega), e1, bor_nat, ← Nat.two_pow_add_eq_or_of_lt (i := 6) (by omega)]
  rw [show 2 ^ 6 * p + k = p * 64 + k by omega]
end
theorem dec_sx : ∀ (A : List Nat) (out : List Int), (∀ a ∈ A, a < 256) → ∃ fq fl fp, (IL ((sx A).map comS)).foldlM decStep (out, 0, 0, 0) = some (out ++ IL A, fq, fl, fp) ∧ fq ≠ 1 ∧ (fq = 0 ∨ 4 ≤ fq + fp)
  | [], out, _ => ⟨0, 0, 0, by simp [sx, IL], by decide, by decide⟩
  | [a], out, h => by
    have ha := h a (by simp)
    refine ⟨2, ((a % 4 * 16 % 16 : Nat) : Int), 2, ?_, by decide, by decide⟩
    simp only [IL_cons, IL_nil, sx, List.map_cons, List.map_nil, List.foldlM_cons, List.foldlM_nil, com_64]
    rw [dec_0 (b_1 ha)]
    simp only [Option.bind_eq_bind, Option.bind_some]
    rw [dec_1 b_2e]
    simp only [Option.bind_some]
    rw [f_1e]
    simp [decStep]
  | [a, b], out, h => by
    have ha := h a (by simp)
    have hb := h b (by simp)
    refine ⟨3, ((b % 16 * 4 % 4 : Nat) : Int), 1, ?_, by decide, by decide⟩
    simp only [IL_cons, IL_nil, sx, List.map_cons, List.map_nil, List.foldlM_cons, List.foldlM_nil, com_64]
    rw [dec_0 (b_1 ha)]
    simp only [Option.bind_eq_bind, Option.bind_some]
    rw [dec_1 (b_2 hb)]
    simp only [Option.bind_some]
    rw [dec_2 b_3e]
    simp only [Option.bind_some]
    rw [f_1 hb, f_2e hb]
    simp [decStep]
  | a :: b :: c :: r, out, h => by
    have ha := h a (by simp)
    have hb := h b (by simp)
    have hc := h c (by simp)
    obtain ⟨fq, fl, fp, h1, h2, h3⟩ := dec_sx r (out ++ [(a : Int)] ++ [(b : Int)] ++ [(c : Int)]) (fun x hx => h x (by simp [hx]))
    refine ⟨fq, fl, fp, ?_, h2, h3⟩
    simp only [IL_cons, sx, List.map_cons, List.foldlM_cons]
    rw [dec_0 (b_1 ha)]
    simp only [Option.bind_eq_bind, Option.bind_some]
    rw [dec_1 (b_2 hb)]
    simp only [Option.bind_some]
    rw [dec_2 (b_3 hc)]
    simp only [Option.bind_some]
    rw [dec_3 b_4]
    simp only [Option.bind_some]
    rw [f_1 hb, f_2 hb hc, f_3 hc]
    rw [h1]
    simp
theorem decRun_sx (A : List Nat) (h : ∀ a ∈ A, a < 256) : ∃ fq fl fp, decRun (IL ((sx A).map comS)) = some (IL A, fq, fl, fp) ∧ fq ≠ 1 ∧ (fq = 0 ∨ 4 ≤ fq + fp) := by
  have := dec_sx A [] h
  simpa [decRun] using this
-- exclusive or, sextet by sextet
theorem xmix (i x1 x2 y1 y2 : Nat) (h1 : y1 < 2 ^ i) (h2 : y2 < 2 ^ i) : (x1 * 2 ^ i + y1) ^^^ (x2 * 2 ^ i + y2) = (x1 ^^^ x2) * 2 ^ i + (y1 ^^^ y2) := by
  have p : 0 < 2 ^ i := Nat.two_pow_pos i
  have d : ∀ x y, y < 2 ^ i → (x * 2 ^ i + y) / 2 ^ i = x := fun x y hy => by
    rw [Nat.mul_comm, Nat.mul_add_div p, Nat.div_eq_of_lt hy, Nat.add_zero]
  have m : ∀ x y, y < 2 ^ i → (x * 2 ^ i + y) % 2 ^ i = y := fun x y hy => by
    rw [Nat.mul_comm, Nat.mul_add_mod, Nat.mod_eq_of_lt hy]
  have e := Nat.div_add_mod ((x1 * 2 ^ i + y1) ^^^ (x2 * 2 ^ i + y2)) (2 ^ i)
  rw [Nat.xor_div_two_pow, Nat.xor_mod_two_pow, d _ _ h1, d _ _ h2, m _ _ h1, m _ _ h2] at e
  rw [← e, Nat.mul_comm]
theorem xs_1 (a b : Nat) : a / 4 ^^^ b / 4 = (a ^^^ b) / 4 := (Nat.xor_div_two_pow (n := 2)).symm
theorem xs_d16 (a b : Nat) : a / 16 ^^^ b / 16 = (a ^^^ b) / 16 := (Nat.xor_div_two_pow (n := 4)).symm
theorem xs_d64 (a b : Nat) : a / 64 ^^^ b / 64 = (a ^^^ b) / 64 := (Nat.xor_div_two_pow (n := 6)).symm
theorem xs_m4 (a b : Nat) : a % 4 ^^^ b % 4 = (a ^^^ b) % 4 := (Nat.xor_mod_two_pow (n := 2)).symm
theorem xs_m16 (a b : Nat) : a % 16 ^^^ b % 16 = (a ^^^ b) % 16 := (Nat.xor_mod_two_pow (n := 4)).symm
theorem xs_m64 (a b : Nat) : a % 64 ^^^ b % 64 = (a ^^^ b) % 64 := (Nat.xor_mod_two_pow (n := 6)).symm
theorem xs_2 (a b a' b' : Nat) (hb : b < 256) (hb' : b' < 256) : (a % 4 * 16 + b / 16) ^^^ (a' % 4 * 16 + b' / 16) = (a ^^^ a') % 4 * 16 + (b ^^^ b') / 16 := by
  have := xmix 4 (a % 4) (a' % 4) (b / 16) (b' / 16) (by omega) (by omega)
  rw [xs_m4, xs_d16] at this; exact this
theorem xs_3 (b c b' c' : Nat) (hc : c < 256) (hc' : c' < 256) : (b % 16 * 4 + c / 64) ^^^ (b' % 16 * 4 + c' / 64) = (b ^^^ b') % 16 * 4 + (c ^^^ c') / 64 := by
  have := xmix 2 (b % 16) (b' % 16) (c / 64) (c' / 64) (by omega) (by omega)
  rw [xs_m16, xs_d64] at this; exact this
theorem xs_2e (a a' : Nat) : (a % 4 * 16) ^^^ (a' % 4 * 16) = (a ^^^ a') % 4 * 16 := by
  have := xmix 4 (a % 4) (a' % 4) 0 0 (by decide) (by decide)
  rw [xs_m4] at this; simpa using this
theorem xs_3e (b b' : Nat) : (b % 16 * 4) ^^^ (b' % 16 * 4) = (b ^^^ b') % 16 * 4 := by
  have := xmix 2 (b % 16) (b' % 16) 0 0 (by decide) (by decide)
  rw [xs_m16] at this; simpa using this
theorem xorS_lt {a b : Nat} (ha : a < 64) : xorS a b = a ^^^ b := by unfold xorS; rw [if_neg (by omega)]
theorem xorS_64 {b : Nat} : xorS 64 b = 64 := rfl
theorem sx_xor : ∀ (A B : List Nat), A.length = B.length → (∀ a ∈ A, a < 256) → (∀ b ∈ B, b < 256) → Mates (sx A) (sx B) ∧ List.zipWith xorS (sx A) (sx B) = sx (List.zipWith (· ^^^ ·) A B)
  | [], [], _, _, _ => ⟨trivial, rfl⟩
  | [a], [a'], _, h, h' => by
    have ha := h a (by simp)
    have ha' := h' a' (by simp)
    refine ⟨⟨.inr ⟨b_1 ha, b_1 ha'⟩, .inr ⟨b_2e, b_2e⟩, .inl ⟨rfl, rfl⟩, .inl ⟨rfl, rfl⟩, trivial⟩, ?_⟩
    simp only [sx, List.zipWith_cons_cons, List.zipWith_nil_left]
    rw [xorS_lt (b_1 ha), xorS_lt b_2e, xorS_64, xs_1, xs_2e]
  | [a, b], [a', b'], _, h, h' => by
    have ha := h a (by simp)
    have ha' := h' a' (by simp)
    have hb := h b (by simp)
    have hb' := h' b' (by simp)
    refine ⟨⟨.inr ⟨b_1 ha, b_1 ha'⟩, .inr ⟨b_2 hb, b_2 hb'⟩, .inr ⟨b_3e, b_3e⟩, .inl ⟨rfl, rfl⟩, trivial⟩, ?_⟩
    simp only [sx, List.zipWith_cons_cons, List.zipWith_nil_left]
    rw [xorS_lt (b_1 ha), xorS_lt (b_2 hb), xorS_lt b_3e, xorS_64, xs_1, xs_2 _ _ _ _ hb hb', xs_3e]
  | a :: b :: c :: r, a' :: b' :: c' :: r', e, h, h' => by
    have ha := h a (by simp)
    have ha' := h' a' (by simp)
    have hb := h b (by simp)
    have hb' := h' b' (by simp)
    have hc := h c (by simp)
    have hc' := h' c' (by simp)
    obtain ⟨i1, i2⟩ := sx_xor r r' (by simpa using e) (fun x hx => h x (by simp [hx])) (fun x hx => h' x (by simp [hx]))
    refine ⟨⟨.inr ⟨b_1 ha, b_1 ha'⟩, .inr ⟨b_2 hb, b_2 hb'⟩, .inr ⟨b_3 hc, b_3 hc'⟩, .inr ⟨b_4, b_4⟩, i1⟩, ?_⟩
    simp only [sx, List.zipWith_cons_cons]
    rw [xorS_lt (b_1 ha), xorS_lt (b_2 hb), xorS_lt (b_3 hc), xorS_lt b_4, xs_1, xs_2 _ _ _ _ hb hb', xs_3 _ _ _ _ hc hc', xs_m64, i2]
  | [], _ :: _, e, _, _ => by simp at e
  | _ :: _, [], e, _, _ => by simp at e
  | [_], _ :: _ :: _, e, _, _ => by simp at e
  | _ :: _ :: _, [_], e, _, _ => by simp at e
  | [_, _], _ :: _ :: _ :: _, e, _, _ => by simp at e
  | _ :: _ :: _ :: _, [_, _], e, _, _ => by simp at e
theorem sx_len : ∀ A : List Nat, 3 * (sx A).length ≤ 4 * A.length + 8
  | [] => by simp [sx]
  | [_] => by simp [sx]
  | [_, _] => by simp [sx]
  | _ :: _ :: _ :: r => by have := sx_len r; simp [sx]; omega
theorem sx_le : ∀ A : List Nat, (∀ a ∈ A, a < 256) → ∀ k ∈ sx A, k ≤ 64
  | [], _, k, h => by simp [sx] at h
  | [a], g, k, h => by
    have ha := g a (by simp)
    simp only [sx, List.mem_cons, List.not_mem_nil, or_false] at h
    rcases h with rfl | rfl | rfl | rfl
    · exact Nat.le_of_lt (b_1 ha)
    · exact Nat.le_of_lt b_2e
    · exact Nat.le_refl _
    · exact Nat.le_refl _
  | [a, b], g, k, h => by
    have ha := g a (by simp)
    have hb := g b (by simp)
    simp only [sx, List.mem_cons, List.not_mem_nil, or_false] at h
    rcases h with rfl | rfl | rfl | rfl
    · exact Nat.le_of_lt (b_1 ha)
    · exact Nat.le_of_lt (b_2 hb)
    · exact Nat.le_of_lt b_3e
    · exact Nat.le_refl _
  | a :: b :: c :: r, g, k, h => by
    have ha := g a (by simp)
    have hb := g b (by simp)
    have hc := g c (by simp)
    simp only [sx, List.mem_cons] at h
    rcases h with rfl | rfl | rfl | rfl | h
    · exact Nat.le_of_lt (b_1 ha)
    · exact Nat.le_of_lt (b_2 hb)
    · exact Nat.le_of_lt (b_3 hc)
    · exact Nat.le_of_lt b_4
    · exact sx_le r (fun x hx => g x (by simp [hx])) k h
-- escape, sign by sign
theorem rep1_flat (c : Nat) (z : List Nat) (f : Nat → List Nat) (l : List Nat) : rep1 c z (l.flatMap f) = l.flatMap fun d => rep1 c z (f d) := by
  unfold rep1; rw [List.flatMap_assoc]
theorem rep1_each (c : Nat) (z l : List Nat) : rep1 c z l = l.flatMap fun d => rep1 c z [d] := by
  have e : l = l.flatMap fun d => [d] := by simp
  conv => lhs; rw [e]
  exact rep1_flat c z _ l
/-- what escape makes of one sign -/
noncomputable def escC (q : Bool) (c : Nat) : List Nat :=
  if c = 38 then [38, 97, 109, 112, 59] else if c = 60 then [38, 108, 116, 59] else if c = 62 then [38, 103, 116, 59]
  else if c = 34 then (if q then [38, 113, 117, 111, 116, 59] else [34]) else if c = 39 then (if q then [38, 35, 120, 50, 55, 59] else [39]) else [c]
theorem escL_one (q : Bool) (c : Nat) : escL q [c] = escC q c := by
  unfold escC
  by_cases h1 : c = 38
  · subst h1; cases q <;> decide
  · by_cases h2 : c = 60
    · subst h2; cases q <;> decide
    · by_cases h3 : c = 62
      · subst h3; cases q <;> decide
      · by_cases h4 : c = 34
        · subst h4; cases q <;> decide
        · by_cases h5 : c = 39
          · subst h5; cases q <;> decide
          · simp only [h1, h2, h3, h4, h5, if_false]
            cases q <;> simp [escL, rep1, h1, h2, h3, h4, h5]
theorem escL_flat (q : Bool) (l : List Nat) : escL q l = l.flatMap (escC q) := by
  have e : escL q l = l.flatMap fun c => escL q [c] := by
    cases q
    · simp only [escL, Bool.false_eq_true, if_false]
      rw [rep1_each 38 _ l, rep1_flat, rep1_flat]
    · simp only [escL, if_true]
      rw [rep1_each 38 _ l, rep1_flat, rep1_flat, rep1_flat, rep1_flat]
  rw [e]
  exact congrArg (fun f => l.flatMap f) (funext fun c => escL_one q c)
theorem escC_else (q : Bool) {c : Nat} (h1 : c ≠ 38) (h2 : c ≠ 60) (h3 : c ≠ 62) (h4 : c ≠ 34) (h5 : c ≠ 39) : escC q c = [c] := by
  unfold escC; rw [if_neg h1, if_neg h2, if_neg h3, if_neg h4, if_neg h5]
theorem sign_cases (c : Nat) : c = 38 ∨ c = 60 ∨ c = 62 ∨ c = 34 ∨ c = 39 ∨ (c ≠ 38 ∧ c ≠ 60 ∧ c ≠ 62 ∧ c ≠ 34 ∧ c ≠ 39) := by omega
theorem turnC_else {c : Nat} (h2 : c ≠ 60) (h3 : c ≠ 62) (h4 : c ≠ 34) (h5 : c ≠ 39) : turnC c = c := by
  unfold turnC; rw [if_neg h2, if_neg h3, if_neg h4, if_neg h5]
/-- the octets of a text in UTF-8, as numbers -/
noncomputable def u8L (l : List Nat) : List Nat := (utf8b l).map UInt8.toNat
theorem u8L_lt (l : List Nat) : ∀ a ∈ u8L l, a < 256 := by
  intro a ha
  unfold u8L at ha
  obtain ⟨x, -, rfl⟩ := List.mem_map.mp ha
  exact x.toNat_lt
theorem u8L_append (a b : List Nat) : u8L (a ++ b) = u8L a ++ u8L b := by simp [u8L, utf8b]
theorem u8L_flat (f : Nat → List Nat) : ∀ l : List Nat, u8L (l.flatMap f) = l.flatMap fun c => u8L (f c)
  | [] => rfl
  | c :: r => by rw [List.flatMap_cons, List.flatMap_cons, u8L_append, u8L_flat f r]
theorem xor_self_list : ∀ l : List Nat, List.zipWith (· ^^^ ·) l l = List.replicate l.length 0
  | [] => rfl
  | a :: r => by rw [List.zipWith_cons_cons, xor_self_list r, Nat.xor_self]; rfl
theorem IL_zero : ∀ n : Nat, IL (List.replicate n 0) = List.replicate n 0
  | 0 => rfl
  | n + 1 => by rw [List.replicate_succ, IL_cons, IL_zero n]; rfl
theorem chunk (q : Bool) (c : Nat) : (u8L (escC q c)).length = (u8L (escC q (turnC c))).length ∧ IL (List.zipWith (· ^^^ ·) (u8L (escC q c)) (u8L (escC q (turnC c)))) = difC q c ∧ (u8L (escC q c)).length ≤ 6 := by
  rcases sign_cases c with rfl | rfl | rfl | rfl | rfl | ⟨h1, h2, h3, h4, h5⟩
  · cases q <;> decide
  · cases q <;> decide
  · cases q <;> decide
  · cases q <;> decide
  · cases q <;> decide
  · rw [turnC_else h2 h3 h4 h5, escC_else q h1 h2 h3 h4 h5, xor_self_list, IL_zero]
    have e : (u8L [c]).length = (Str.utf8Of c).length := by simp [u8L, utf8b]
    refine ⟨rfl, ?_, ?_⟩
    · unfold difC
      rw [if_neg (by omega), if_neg (by omega), if_neg h1, e]
    · rw [e]; exact Nat.le_trans (utf8Of_len c) (by decide)
theorem chunks (q : Bool) : ∀ l : List Nat, (u8L (escL q l)).length = (u8L (escL q (turnL l))).length ∧ IL (List.zipWith (· ^^^ ·) (u8L (escL q l)) (u8L (escL q (turnL l)))) = difL q l ∧ (u8L (escL q l)).length ≤ 6 * l.length := by
  intro l
  rw [escL_flat, escL_flat, u8L_flat, u8L_flat]
  unfold turnL difL
  induction l with
  | nil => exact ⟨rfl, rfl, Nat.le_refl _⟩
  | cons c r ih =>
    obtain ⟨i1, i2, i3⟩ := ih
    obtain ⟨c1, c2, c3⟩ := chunk q c
    simp only [List.map_cons, List.flatMap_cons]
    refine ⟨by rw [List.length_append, List.length_append, i1, c1], ?_, by rw [List.length_append, List.length_cons]; omega⟩
    rw [List.zipWith_append c1, IL_append, i2, c2]
-- the references put back
/-- no match of y begins in t, whatever follows -/
noncomputable def Clean (y t : List Nat) : Prop := ∀ r k, k < t.length → ((t ++ r).drop k).take y.length ≠ y
theorem clean_of {a d : Nat} {y t : List Nat} (h : ∀ k, k < t.length → t[k]? ≠ some a ∨ (k + 1 < t.length ∧ t[k + 1]? ≠ some d)) : Clean (a :: d :: y) t := by
  intro r k hk e
  have e0 := congrArg (fun l => l[0]?) e
  have e1 := congrArg (fun l => l[1]?) e
  simp only [List.length_cons, List.getElem?_take, List.getElem?_drop] at e0 e1
  rw [if_pos (by omega)] at e0
  rw [if_pos (by omega)] at e1
  rcases h k hk with h | ⟨h1, h2⟩
  · rw [Nat.add_zero, List.getElem?_append_left hk] at e0
    exact h e0
  · rw [List.getElem?_append_left h1] at e1
    exact h2 e1
theorem clean_one {a d c : Nat} {y : List Nat} (h : c ≠ a) : Clean (a :: d :: y) [c] := by
  refine clean_of fun k hk => .inl ?_
  have : k = 0 := by simpa using hk
  subst this
  simpa using h
theorem rplF_flat {y z : List Nat} (hy : 1 ≤ y.length) (f g : Nat → List Nat) : ∀ (l : List Nat), (∀ c ∈ l, (f c = y ∧ g c = z) ∨ (g c = f c ∧ Clean y (f c))) → ∀ n, (l.flatMap f).length ≤ n → rplF y z n (l.flatMap f) = l.flatMap g
  | [], _, n, _ => by cases n <;> rfl
  | c :: r, h, n, hn => by
    have ih := rplF_flat hy f g r (fun x hx => h x (by simp [hx]))
    rw [List.flatMap_cons, List.length_append] at hn
    rw [List.flatMap_cons, List.flatMap_cons]
    rcases h c (by simp) with ⟨h1, h2⟩ | ⟨h1, h2⟩
    · rw [h1] at hn ⊢
      rw [h2, rplF_hit (by intro z'; rw [z'] at hy; exact absurd hy (by decide)) (by omega) (by simp)]
      rw [List.drop_left, ih _ (by omega)]
    · rw [rplF_miss (f c).length n _ (by omega) (by simp) (fun k hk => h2 _ k hk)]
      rw [List.take_left, List.drop_left, ih _ (by omega), h1]
theorem rpl_flat {y z : List Nat} (hy : 1 ≤ y.length) (f g : Nat → List Nat) (l : List Nat) (h : ∀ c ∈ l, (f c = y ∧ g c = z) ∨ (g c = f c ∧ Clean y (f c))) : rpl y z (l.flatMap f) = l.flatMap g :=
  rplF_flat hy f g l h _ (Nat.le_refl _)
/-- escape's writing of a sign where those of a list are put back -/
noncomputable def bkC (q : Bool) (d : List Nat) (c : Nat) : List Nat := if c ∈ d then [c] else escC q c
theorem bk_step (q : Bool) (d : List Nat) (x : Nat) (y : List Nat) (l : List Nat) (hy : 1 ≤ y.length) (hx : x ∉ d)
    (h : ∀ c, c = 38 ∨ c = 60 ∨ c = 62 ∨ c = 34 ∨ c = 39 → (bkC q d c = y ∧ bkC q (x :: d) c = [x]) ∨ (bkC q (x :: d) c = bkC q d c ∧ Clean y (bkC q d c)))
    (hc : ∀ c, c ≠ 38 → Clean y [c]) (hm : x = 38 ∨ x = 60 ∨ x = 62 ∨ x = 34 ∨ x = 39) : rpl y [x] (l.flatMap (bkC q d)) = l.flatMap (bkC q (x :: d)) := by
  refine rpl_flat hy _ _ l fun c _ => ?_
  rcases sign_cases c with hh | hh | hh | hh | hh | ⟨h1, h2, h3, h4, h5⟩
  · exact h c (by omega)
  · exact h c (by omega)
  · exact h c (by omega)
  · exact h c (by omega)
  · exact h c (by omega)
  · have e : ∀ d', bkC q d' c = [c] := fun d' => by
      unfold bkC
      by_cases hd : c ∈ d'
      · rw [if_pos hd]
      · rw [if_neg hd, escC_else q h1 h2 h3 h4 h5]
    rw [e, e]
    exact .inr ⟨rfl, hc c h1⟩
theorem clean_of_b {a d : Nat} {y t : List Nat} (h : (List.range t.length).all (fun k => t[k]? != some a || (decide (k + 1 < t.length) && t[k + 1]? != some d)) = true) : Clean (a :: d :: y) t := by
  refine clean_of fun k hk => ?_
  have := List.all_eq_true.mp h k (List.mem_range.mpr hk)
  simpa using this
theorem putBack_esc (q : Bool) (l : List Nat) : putBackL (escL q l) = l := by
  rw [escL_flat]
  have e0 : l.flatMap (escC q) = l.flatMap (bkC q []) := by
    refine congrArg (fun f => l.flatMap f) (funext fun c => ?_)
    unfold bkC; rw [if_neg (by simp)]
  unfold putBackL
  rw [e0]
  rw [bk_step q [] 60 _ l (by decide) (by decide) ?a (fun c hc => clean_one hc) (by decide)]
  rw [bk_step q [60] 62 _ l (by decide) (by decide) ?b (fun c hc => clean_one hc) (by decide)]
  rw [bk_step q [62, 60] 34 _ l (by decide) (by decide) ?c (fun c hc => clean_one hc) (by decide)]
  rw [bk_step q [34, 62, 60] 39 _ l (by decide) (by decide) ?d (fun c hc => clean_one hc) (by decide)]
  rw [bk_step q [39, 34, 62, 60] 38 _ l (by decide) (by decide) ?e (fun c hc => clean_one hc) (by decide)]
  · have e : ∀ c, bkC q [38, 39, 34, 62, 60] c = [c] := fun c => by
      unfold bkC
      by_cases hd : c ∈ [38, 39, 34, 62, 60]
      · rw [if_pos hd]
      · rw [if_neg hd]
        simp at hd
        exact escC_else q (by omega) (by omega) (by omega) (by omega) (by omega)
    rw [show bkC q [38, 39, 34, 62, 60] = fun c => [c] from funext e]
    simp
  all_goals
    intro c hc
    rcases hc with rfl | rfl | rfl | rfl | rfl <;> cases q <;>
      first
      | exact .inl ⟨by decide, by decide⟩
      | exact .inr ⟨by decide, clean_of_b (by decide)⟩
-- the text's signs
theorem ok_ascii {c : Nat} (h : c < 128) : okPoint c := ⟨Nat.lt_trans h (by decide), .inl (Nat.lt_trans h (by decide))⟩
theorem sgn_ok (n : Int) : okPoint (sgnOf n) := by
  unfold sgnOf
  split
  · rename_i h
    have h0 : 0 ≤ n.fmod 12 := Int.fmod_nonneg_of_pos _ (by decide)
    obtain ⟨k, hk, e⟩ := below_11 h0 h
    rw [e]
    refine ok_ascii ?_
    clear e h0 h
    revert k
    decide +kernel
  · have h0 : 0 ≤ (n.fdiv 12).fmod 1112064 := Int.fmod_nonneg_of_pos _ (by decide)
    have h1 : (n.fdiv 12).fmod 1112064 < 1112064 := Int.fmod_lt_of_pos _ (by decide)
    unfold ptOf okPoint
    dsimp only
    split <;> omega
theorem text_ok (ns : List Int) : ∀ c ∈ textL ns, okPoint c := by
  intro c hc
  unfold textL at hc
  rcases List.mem_append.mp hc with h | h
  · simp at h
    rcases h with rfl | rfl | rfl | rfl | rfl <;> exact ⟨by decide, .inl (by decide)⟩
  · obtain ⟨n, -, rfl⟩ := List.mem_map.mp h
    exact sgn_ok n
theorem text_len (ns : List Int) : (textL ns).length ≤ 19 := by
  unfold textL
  rw [List.length_append, List.length_map, List.length_take]
  have : ([60, 39, 38, 0x83e, 0x83f] : List Nat).length = 5 := rfl
  omega
theorem turn_len (l : List Nat) : (turnL l).length = l.length := by simp [turnL]
theorem turn_ok {l : List Nat} (h : ∀ c ∈ l, okPoint c) : ∀ c ∈ turnL l, okPoint c := by
  intro c hc
  unfold turnL at hc
  obtain ⟨d, hd, rfl⟩ := List.mem_map.mp hc
  have := h d hd
  unfold turnC okPoint at *
  split
  · omega
  · split
    · omega
    · split
      · omega
      · split <;> omega
theorem esc_ok {q : Bool} {l : List Nat} (h : ∀ c ∈ l, okPoint c) : ∀ c ∈ escL q l, okPoint c := by
  intro c hc
  rw [escL_flat] at hc
  obtain ⟨d, hd, hc⟩ := List.mem_flatMap.mp hc
  have hdk := h d hd
  have hs : d = 38 ∨ d = 60 ∨ d = 62 ∨ d = 34 ∨ d = 39 → ∀ c ∈ escC q d, c < 128 := by
    intro hh
    rcases hh with rfl | rfl | rfl | rfl | rfl <;> cases q <;> decide
  rcases sign_cases d with h | h | h | h | h | ⟨h1, h2, h3, h4, h5⟩
  · exact ok_ascii (hs (.inl h) c hc)
  · exact ok_ascii (hs (.inr (.inl h)) c hc)
  · exact ok_ascii (hs (.inr (.inr (.inl h))) c hc)
  · exact ok_ascii (hs (.inr (.inr (.inr (.inl h)))) c hc)
  · exact ok_ascii (hs (.inr (.inr (.inr (.inr h)))) c hc)
  · rw [escC_else q h1 h2 h3 h4 h5] at hc
    rw [List.mem_singleton.mp hc]; exact hdk
theorem utf8Of_pos (c : Nat) : 1 ≤ (Str.utf8Of c).length := by
  have := utf8Of_ne c
  cases h : Str.utf8Of c with
  | nil => exact absurd h this
  | cons a b => simp
theorem u8L_ge : ∀ l : List Nat, l.length ≤ (u8L l).length
  | [] => Nat.le_refl _
  | c :: r => by
    have e : u8L (c :: r) = u8L [c] ++ u8L r := u8L_append [c] r
    have e1 : (u8L [c]).length = (Str.utf8Of c).length := by simp [u8L, utf8b]
    have := u8L_ge r
    have := utf8Of_pos c
    rw [e, List.length_append, List.length_cons]; omega
theorem esc_ne (q : Bool) (ns : List Int) : escL q (textL ns) ≠ [] := by
  intro h
  have := putBack_esc q (textL ns)
  rw [h] at this
  have e : (textL ns).length = 0 := by rw [← this]; rfl
  unfold textL at e
  simp at e
-- the law's rows
/-- the octets of the escaped text and of the escaped turned one -/
noncomputable def oA (q : Bool) (ns : List Int) : List Nat := u8L (escL q (textL ns))
noncomputable def oB (q : Bool) (ns : List Int) : List Nat := u8L (escL q (turnL (textL ns)))
noncomputable def sA (q : Bool) (ns : List Int) : List Nat := sx (oA q ns)
noncomputable def sB (q : Bool) (ns : List Int) : List Nat := sx (oB q ns)
theorem oA_lt (q : Bool) (ns : List Int) : ∀ a ∈ oA q ns, a < 256 := u8L_lt _
theorem oB_lt (q : Bool) (ns : List Int) : ∀ a ∈ oB q ns, a < 256 := u8L_lt _
theorem oA_len (q : Bool) (ns : List Int) : (oA q ns).length ≤ 114 := by
  have h1 := (chunks q (textL ns)).2.2
  have h2 := text_len ns
  unfold oA; omega
theorem oAB_len (q : Bool) (ns : List Int) : (oA q ns).length = (oB q ns).length := (chunks q (textL ns)).1
theorem sA_len (q : Bool) (ns : List Int) : (sA q ns).length ≤ 160 := by
  have h1 := sx_len (oA q ns)
  have h2 := oA_len q ns
  unfold sA; omega
theorem sAB (q : Bool) (ns : List Int) : Mates (sA q ns) (sB q ns) ∧ List.zipWith xorS (sA q ns) (sB q ns) = sx (List.zipWith (· ^^^ ·) (oA q ns) (oB q ns)) :=
  sx_xor _ _ (oAB_len q ns) (oA_lt q ns) (oB_lt q ns)
theorem sB_len (q : Bool) (ns : List Int) : (sB q ns).length ≤ 160 := by
  have h1 := mates_len (sAB q ns).1
  have h2 := sA_len q ns
  omega
theorem bInts_u8 (l : List Nat) : KBw.bInts (utf8b l).toArray = IL (u8L l) := by
  unfold KBw.bInts IL u8L
  simp
theorem bInts_N (l : List Nat) (h : ∀ a ∈ l, a < 256) : KBw.bInts (l.map Nat.toUInt8).toArray = IL l := by
  unfold KBw.bInts IL
  simp only [List.toList_toArray, List.map_map]
  refine List.map_congr_left fun a ha => ?_
  show (((Nat.toUInt8 a).toNat : Nat) : Int) = _
  rw [u8 a (h a ha)]
theorem byteArr_IL (l : List Nat) : byteArr (IL l) = (l.map Nat.toUInt8).toArray := by
  unfold byteArr IL
  simp only [List.map_map]
  congr 1
theorem byteArr_u8 (l : List Nat) : byteArr (IL (u8L l)) = (utf8b l).toArray := by
  rw [byteArr_IL]
  unfold u8L
  rw [List.map_map]
  congr 1
  have : ∀ x : UInt8, (Nat.toUInt8 ∘ UInt8.toNat) x = x := fun x => by
    show UInt8.ofNat x.toNat = x
    simp
  rw [List.map_congr_left (g := id) (fun x _ => this x), List.map_id]
theorem com_lt : ∀ k, k ≤ 64 → comS k < 128 := by
  have : ∀ k, k < 65 → comS k < 128 := by decide +kernel
  intro k hk; exact this k (by omega)
theorem saf_lt : ∀ k, k ≤ 64 → safS k < 128 := by
  have : ∀ k, k < 65 → safS k < 128 := by decide +kernel
  intro k hk; exact this k (by omega)
theorem url_com : ∀ k, k ≤ 64 → urlL.toArray.getD (Nat.toUInt8 (comS k)).toNat (Nat.toUInt8 (comS k)) = Nat.toUInt8 (safS k) := by
  have : ∀ k, k < 65 → urlL.toArray.getD (Nat.toUInt8 (comS k)).toNat (Nat.toUInt8 (comS k)) = Nat.toUInt8 (safS k) := by decide +kernel
  intro k hk; exact this k (by omega)
/-- what b64encode writes -/
noncomputable def wOne (q : Bool) (ns : List Int) : Array UInt8 := (((sA q ns).map comS).map Nat.toUInt8).toArray
noncomputable def wTwo (q : Bool) (ns : List Int) : Array UInt8 := (((sB q ns).map safS).map Nat.toUInt8).toArray
theorem one_is (q : Bool) (ns : List Int) : byteArr (encInts (KBw.bInts (utf8b (escL q (textL ns))).toArray)) = wOne q ns := by
  rw [bInts_u8, encInts_sx _ (u8L_lt _), byteArr_IL]; rfl
theorem two_is (q : Bool) (ns : List Int) : ((byteArr (encInts (KBw.bInts (utf8b (escL q (turnL (textL ns)))).toArray))).map fun c => urlL.toArray.getD c.toNat c) = wTwo q ns := by
  rw [bInts_u8, encInts_sx _ (u8L_lt _), byteArr_IL]
  unfold wTwo sB oB
  rw [List.map_toArray, List.map_map]
  congr 1
  rw [List.map_map, List.map_map]
  refine List.map_congr_left fun k hk => ?_
  exact url_com k (sx_le _ (u8L_lt _) k hk)
theorem sA_le (q : Bool) (ns : List Int) : ∀ k ∈ sA q ns, k ≤ 64 := sx_le _ (oA_lt q ns)
theorem sB_le (q : Bool) (ns : List Int) : ∀ k ∈ sB q ns, k ≤ 64 := sx_le _ (oB_lt q ns)
theorem oA_ne (q : Bool) (ns : List Int) : oA q ns ≠ [] := by
  intro h
  have h1 := u8L_ge (escL q (textL ns))
  have h2 : (u8L (escL q (textL ns))).length = 0 := by
    have := congrArg List.length h; exact this
  exact esc_ne q ns (List.length_eq_zero_iff.mp (by omega))
theorem sA_ne (q : Bool) (ns : List Int) : (sA q ns).map comS ≠ [] := by
  intro h
  have h1 : sA q ns = [] := List.map_eq_nil_iff.mp h
  have h2 := oA_ne q ns
  unfold sA at h1
  cases e : oA q ns with
  | nil => exact h2 e
  | cons a r =>
    rw [e] at h1
    match r, h1 with
    | [], h1 => simp [sx] at h1
    | [_], h1 => simp [sx] at h1
    | _ :: _ :: _, h1 => simp [sx] at h1
theorem sB_ne (q : Bool) (ns : List Int) : (sB q ns).map safS ≠ [] := by
  intro h
  have h1 : sB q ns = [] := List.map_eq_nil_iff.mp h
  have h2 := mates_len (sAB q ns).1
  rw [h1] at h2
  have h3 : sA q ns = [] := List.length_eq_zero_iff.mp h2
  exact sA_ne q ns (by rw [h3]; rfl)
/-- the text that the two writings make together -/
noncomputable def laid (q : Bool) (ns : List Int) : List Nat := togL (sA q ns) (sB q ns)
theorem laid_is (q : Bool) (ns : List Int) : laid q ns = (sx (List.zipWith (· ^^^ ·) (oA q ns) (oB q ns))).map comS := by
  unfold laid togL; rw [(sAB q ns).2]
theorem xor_lt256 (q : Bool) (ns : List Int) : ∀ a ∈ List.zipWith (· ^^^ ·) (oA q ns) (oB q ns), a < 256 := by
  intro a ha
  obtain ⟨i, hi, e⟩ := List.mem_iff_getElem.mp ha
  rw [List.getElem_zipWith] at e
  rw [← e]
  exact Nat.xor_lt_two_pow (n := 8) (oA_lt q ns _ (List.getElem_mem _)) (oB_lt q ns _ (List.getElem_mem _))
theorem laid_lt (q : Bool) (ns : List Int) : ∀ c ∈ laid q ns, c < 128 := by
  intro c hc
  rw [laid_is] at hc
  obtain ⟨k, hk, rfl⟩ := List.mem_map.mp hc
  exact com_lt k (sx_le _ (xor_lt256 q ns) k hk)
theorem laid_len (q : Bool) (ns : List Int) : (laid q ns).length ≤ 160 := by
  unfold laid togL
  rw [List.length_map, List.length_zipWith]
  have := sA_len q ns
  omega
theorem difL_in (q : Bool) (l : List Nat) : KBa.In (difL q l) := by
  intro n hn
  unfold difL at hn
  obtain ⟨c, -, hc⟩ := List.mem_flatMap.mp hn
  exact difC_in q c n hc
theorem laid_dec (q : Bool) (ns : List Int) : ∃ fq fl fp, decRun (KBw.bInts ((laid q ns).map Nat.toUInt8).toArray) = some (difL q (textL ns), fq, fl, fp) ∧ fq ≠ 1 ∧ (fq = 0 ∨ 4 ≤ fq + fp) := by
  obtain ⟨fq, fl, fp, h1, h2, h3⟩ := decRun_sx _ (xor_lt256 q ns)
  refine ⟨fq, fl, fp, ?_, h2, h3⟩
  rw [bInts_N _ (fun a ha => Nat.lt_trans (laid_lt q ns a ha) (by decide)), laid_is, h1]
  unfold oA oB
  rw [(chunks q (textL ns)).2.1]
theorem one_dec (q : Bool) (ns : List Int) : ∃ fq fl fp, decRun (KBw.bInts (wOne q ns)) = some (IL (oA q ns), fq, fl, fp) ∧ fq ≠ 1 ∧ (fq = 0 ∨ 4 ≤ fq + fp) := by
  obtain ⟨fq, fl, fp, h1, h2, h3⟩ := decRun_sx _ (oA_lt q ns)
  refine ⟨fq, fl, fp, ?_, h2, h3⟩
  unfold wOne
  rw [bInts_N _ ?_]
  · exact h1
  · intro a ha
    obtain ⟨k, hk, rfl⟩ := List.mem_map.mp ha
    exact Nat.lt_trans (com_lt k (sA_le q ns k hk)) (by decide)
theorem IL_in (l : List Nat) (h : ∀ a ∈ l, a < 256) : KBa.In (IL l) := by
  intro n hn
  unfold IL at hn
  obtain ⟨a, ha, rfl⟩ := List.mem_map.mp hn
  have := h a ha
  omega
theorem wOne_size (q : Bool) (ns : List Int) : (wOne q ns).size ≤ 160 := by
  unfold wOne
  have := sA_len q ns
  simpa using this
theorem wTwo_size (q : Bool) (ns : List Int) : (wTwo q ns).size ≤ 160 := by
  unfold wTwo
  have := sB_len q ns
  simpa using this
theorem u8_size (q : Bool) (ns : List Int) : (utf8b (escL q (textL ns))).toArray.size ≤ 114 := by
  have := oA_len q ns
  unfold oA u8L at this
  simpa using this
theorem u8_size2 (q : Bool) (ns : List Int) : (utf8b (escL q (turnL (textL ns)))).toArray.size ≤ 114 := by
  have := oA_len q ns
  rw [oAB_len] at this
  unfold oB u8L at this
  simpa using this
theorem esc_len (q : Bool) (ns : List Int) : (escL q (textL ns)).length ≤ 114 := by
  have h1 := u8L_ge (escL q (textL ns))
  have h2 := oA_len q ns
  unfold oA at h2; omega
-- the contracts, as the law uses them
section
variable {w : World} {mean : ExcName → Option Value} {mg mb : Str → Option Value}
theorem toT {k : Nat} {f : Addr} {vs : List Value} {kw : List (Str × Value)} {R : Tok → Value} (S : Spec k w mean mg mb f vs kw R) : SpecT k w mean mg mb f vs kw R :=
  fun news dp un gd cn cs a ccd cl outer A₀ base h₀ L m s Q E _ => S news dp un gd cn cs a ccd cl outer A₀ base h₀ L m s Q E
theorem s_esc (q : Bool) (ns : List Int) (t : Tok) : SpecT 2 w mean mg mb 117 [.str ⟨(textL ns).toArray⟩ t, .bool q] [] (fun t => .str ⟨(escL q (textL ns)).toArray⟩ t) :=
  escape_spec (textL ns) t q (Nat.le_trans (text_len ns) (by decide))
theorem s_turn (ns : List Int) (t : Tok) : SpecT 3 w mean mg mb 129 [.str ⟨(textL ns).toArray⟩ t] [] (fun t => .str ⟨(turnL (textL ns)).toArray⟩ t) :=
  toT (turned_spec (textL ns) t (Nat.le_trans (text_len ns) (by decide)))
theorem s_esc2 (q : Bool) (ns : List Int) (t : Tok) : SpecT 2 w mean mg mb 117 [.str ⟨(turnL (textL ns)).toArray⟩ t, .bool q] [] (fun t => .str ⟨(escL q (turnL (textL ns))).toArray⟩ t) :=
  escape_spec (turnL (textL ns)) t q (by rw [turn_len]; exact Nat.le_trans (text_len ns) (by decide))
theorem s_one (q : Bool) (ns : List Int) (t : Tok) : SpecT 3 w mean mg mb 94 [.bytes (utf8b (escL q (textL ns))).toArray t] [] (fun t => .bytes (wOne q ns) t) := by
  have h := b64encode_spec (w := w) (mean := mean) (mg := mg) (mb := mb) (utf8b (escL q (textL ns))).toArray t (Nat.le_trans (u8_size q ns) (by decide))
  rw [one_is] at h; exact toT h
theorem s_two (q : Bool) (ns : List Int) (t : Tok) : SpecT 4 w mean mg mb 109 [.bytes (utf8b (escL q (turnL (textL ns)))).toArray t] [] (fun t => .bytes (wTwo q ns) t) := by
  have h := urlsafe_spec (w := w) (mean := mean) (mg := mg) (mb := mb) (utf8b (escL q (turnL (textL ns)))).toArray t (Nat.le_trans (u8_size2 q ns) (by decide))
  rw [two_is] at h; exact toT h
theorem s_tog (q : Bool) (ns : List Int) (t u : Tok) : SpecT 2 w mean mg mb 143 [.str ⟨((sA q ns).map comS).toArray⟩ t, .str ⟨((sB q ns).map safS).toArray⟩ u] [] (fun t => .str ⟨(laid q ns).toArray⟩ t) :=
  toT (together_spec (sA q ns) (sB q ns) t u (sAB q ns).1 (Nat.le_trans (sA_len q ns) (by decide)))
theorem s_laid (q : Bool) (ns : List Int) (t : Tok) : SpecT 5 w mean mg mb 102 [.str ⟨(laid q ns).toArray⟩ t, .none, .bool true] [] (fun t => .bytes (byteArr (difL q (textL ns))) t) := by
  obtain ⟨fq, fl, fp, h1, h2, h3⟩ := laid_dec q ns
  exact toT (b64decode_str_spec ⟨(laid q ns).toArray⟩ t _ fq fl fp (laid_lt q ns) (by simpa using Nat.le_trans (laid_len q ns) (by decide)) h1 h2 h3 (difL_in q _))
theorem s_dif (q : Bool) (ns : List Int) (t : Tok) : SpecT 2 w mean mg mb 136 [.str ⟨(textL ns).toArray⟩ t, .bool q] [] (fun t => .bytes (byteArr (difL q (textL ns))) t) :=
  toT (diff_spec (textL ns) t q (Nat.le_trans (text_len ns) (by decide)) (text_ok ns))
theorem s_back (q : Bool) (ns : List Int) (t : Tok) : SpecT 5 w mean mg mb 102 [.bytes (wOne q ns) t, .none, .bool true] [] (fun t => .bytes (utf8b (escL q (textL ns))).toArray t) := by
  obtain ⟨fq, fl, fp, h1, h2, h3⟩ := one_dec q ns
  have h := b64decode_bytes_spec (w := w) (mean := mean) (mg := mg) (mb := mb) (wOne q ns) t _ fq fl fp (Nat.le_trans (wOne_size q ns) (by decide)) h1 h2 h3 (IL_in _ (oA_lt q ns))
  unfold oA at h
  rw [byteArr_u8] at h; exact toT h
theorem s_put (q : Bool) (ns : List Int) (t : Tok) : SpecT 2 w mean mg mb 150 [.str ⟨(escL q (textL ns)).toArray⟩ t] [] (fun t => .str ⟨(textL ns).toArray⟩ t) := by
  have h := put_back_spec (w := w) (mean := mean) (mg := mg) (mb := mb) (escL q (textL ns)) t (Nat.le_trans (esc_len q ns) (by decide))
  rw [putBack_esc] at h; exact h
end
section
variable {prog : Program} {w : World} {A : Around} {E : Value → Shared → Prop} {s : Shared} {t u : Tok} {Q : Value → Shared → Prop}
theorem keep {x : Sem Value} {V : Tok → Value} (hs : 1 ≤ s.toks) (h : ∀ t' k, 1 ≤ k → Q (V t') { s with toks := k }) (b : wpAny (model prog w) A x (fun r s' => ∃ t' k, r = V t' ∧ s' = { s with toks := k }) E s) : wpAny (model prog w) A x Q E s := by
  refine wpAny_mono (wpAny_toks_of hs b) (fun r s' q => ?_) fun _ _ q => q.2
  obtain ⟨hn, t', k, rfl, rfl⟩ := q
  exact h t' k hn
theorem c_enc (q : Bool) (ns : List Int) (hs : 1 ≤ s.toks) (h : ∀ t' k, 1 ≤ k → Q (.bytes (utf8b (escL q (textL ns))).toArray t') { s with toks := k }) :
    wpAny (model prog w) A (call (.builtin "str.encode") [.str ⟨(escL q (textL ns)).toArray⟩ t, .str (Str.ofString "utf-8") u]) Q E s :=
  keep hs h (call_encode_utf8 (x := ⟨(escL q (textL ns)).toArray⟩) (esc_ok (text_ok ns)) (by have := u8_size q ns; have e : (utf8b (escL q (textL ns))).toArray.size = (utf8b (escL q (textL ns))).length := rfl; show (utf8b (escL q (textL ns))).length ≤ _; omega) fun t' k => ⟨t', k, rfl, rfl⟩)
theorem c_enc2 (q : Bool) (ns : List Int) (hs : 1 ≤ s.toks) (h : ∀ t' k, 1 ≤ k → Q (.bytes (utf8b (escL q (turnL (textL ns)))).toArray t') { s with toks := k }) :
    wpAny (model prog w) A (call (.builtin "str.encode") [.str ⟨(escL q (turnL (textL ns))).toArray⟩ t, .str (Str.ofString "utf-8") u]) Q E s :=
  keep hs h (call_encode_utf8 (x := ⟨(escL q (turnL (textL ns))).toArray⟩) (esc_ok (turn_ok (text_ok ns))) (by have := u8_size2 q ns; have e : (utf8b (escL q (turnL (textL ns)))).toArray.size = (utf8b (escL q (turnL (textL ns)))).length := rfl; show (utf8b (escL q (turnL (textL ns)))).length ≤ _; omega) fun t' k => ⟨t', k, rfl, rfl⟩)
theorem c_one (q : Bool) (ns : List Int) (hs : 1 ≤ s.toks) (h : ∀ t' k, 1 ≤ k → Q (.str ⟨((sA q ns).map comS).toArray⟩ t') { s with toks := k }) :
    wpAny (model prog w) A (call (.builtin "bytes.decode") [.bytes (wOne q ns) t, .str (Str.ofString "ascii") u]) Q E s :=
  keep hs h (call_decode_ascii (l := (sA q ns).map comS) rfl (sA_ne q ns) (fun c hc => by obtain ⟨k, hk, rfl⟩ := List.mem_map.mp hc; exact com_lt k (sA_le q ns k hk)) (by have := sA_len q ns; rw [List.length_map]; omega) fun t' k => ⟨t', k, rfl, rfl⟩)
theorem c_two (q : Bool) (ns : List Int) (hs : 1 ≤ s.toks) (h : ∀ t' k, 1 ≤ k → Q (.str ⟨((sB q ns).map safS).toArray⟩ t') { s with toks := k }) :
    wpAny (model prog w) A (call (.builtin "bytes.decode") [.bytes (wTwo q ns) t, .str (Str.ofString "ascii") u]) Q E s :=
  keep hs h (call_decode_ascii (l := (sB q ns).map safS) rfl (sB_ne q ns) (fun c hc => by obtain ⟨k, hk, rfl⟩ := List.mem_map.mp hc; exact saf_lt k (sB_le q ns k hk)) (by have := sB_len q ns; rw [List.length_map]; omega) fun t' k => ⟨t', k, rfl, rfl⟩)
theorem c_back (q : Bool) (ns : List Int) (hs : 1 ≤ s.toks) (h : ∀ t' k, 1 ≤ k → Q (.str ⟨(escL q (textL ns)).toArray⟩ t') { s with toks := k }) :
    wpAny (model prog w) A (call (.builtin "bytes.decode") [.bytes (utf8b (escL q (textL ns))).toArray t, .str (Str.ofString "utf-8") u]) Q E s :=
  keep hs h (call_decode_utf8 (l := escL q (textL ns)) rfl (esc_ne q ns) (esc_ok (text_ok ns)) (Nat.le_trans (esc_len q ns) (by decide)) fun t' k => ⟨t', k, rfl, rfl⟩)
end
section
variable {w : World} {mean : ExcName → Option Value} {mg mb : Str → Option Value}
  {news : List (Addr × Obj)} {dp un : Nat} {gd : Option (List Code)} {cn : Str} {cs : Scope} {a : Addr} {ccd : Value} {cl : List (Str × Addr)} {outer : List Env} {A₀ : Around} {base h₀ : Heap} {L : Addr} {m : Str → Option Value} {s : Shared} {Q E : Value → Shared → Prop}
theorem use_text {S : Addr} {vs : List Value} {ns : List Int} (hi : IntsAre vs ns) (hn : ns.length ≤ 63) (hS : h₀.IsList S vs.toArray) (B : Below A₀ base outer h₀) (F : Fr h₀ L s.heap m) (X : (hd.heap_39 w.params).In h₀) (N : News h₀ L s.heap news) (T : Top hd.view_39 LS mean mg mb h₀) (hk : cs.kind = .function) (hd : dp + 2 < recursionLimit) (hu : un + 8 * 2 < cLine)
    (ret : ∀ (t : Tok) (h' : Heap) (tk' : Nat), Fr h₀ L h' m → News h₀ L h' news → Q (.str ⟨(textL ns).toArray⟩ t) { s with heap := h', toks := tk' }) :
    wpAny (model PR w) (ktrTop dp un gd cn cs L a ccd cl outer) (call (.ref 124) [.ref S] []) Q E s :=
  text_spec S vs ns hi hn news dp un gd cn cs a ccd cl outer A₀ base h₀ L m s Q E hS B F X N T hk hd hu ret
end
end
section
local macro_rules | `(tactic| walk_at "execs cons") => `(tactic| k_extra "mine22")
local macro_rules | `(tactic| walk_at "execs nil") => `(tactic| k_extra "mine23")
local macro_rules | `(tactic| walk_at "call ref") => `(tactic| k_extra "mine24")
local macro_rules | `(tactic| walk_at "call ref") => `(tactic| k_extra "mine25")
local macro_rules | `(tactic| walk_at "call builtin:str.encode") => `(tactic| k_extra "mine26")
local macro_rules | `(tactic| walk_at "call builtin:bytes.decode") => `(tactic| k_extra "mine27")
local macro_rules | `(tactic| walk_at "getMethod str") => `(tactic| (k_here; (with_reducible refine method_encode ?_)))
theorem law_walk : PySem.Challenge.rw_qh0089_01.Holds := by
  w_on
  refine hd ?_
  k_with_none
  k_with "mine22" => (k_here; (try dsimp only); (with_reducible refine toks_gen ?gt ?_); (case gt => omega); intro _ _; refine wpAny_execs_cons ?_)
  k_with "mine23" => (k_here; (try dsimp only); (with_reducible refine toks_gen ?gt ?_); (case gt => omega); intro _ _; refine wpAny_execs_nil ?_)
  k_with "mine24" => ((with_reducible show wpAny _ _ (call (Value.ref 124) _ _) _ _ _); k_here; k_dflt (refine' use_text ?h1 ?h2 ?hS ?B ?F ?X ?N ?T ?hk ?hd ?hu ?_; (case h1 => assumption); (case h2 => omega); (case hS => assumption); (case B => k_asm); (case F => k_asm); (case X => k_asm); (case N => k_asm); (case T => k_asm); (case hk => first | exact rfl | assumption); (case hd => ktr_room); (case hu => ktr_units); k_whole); intro _ _ _ _ _; (try dsimp only); (try k_sweep))
  k_with "mine25" => (k_here; k_dflt (refine' useT ?S ?ht ?B ?F ?X ?N ?T ?hk ?hd ?hu ?_; (case ht => (dsimp only; omega)); (case B => k_asm); (case F => k_asm); (case X => k_asm); (case N => k_asm); (case T => k_asm); (case S => with_reducible first | exact s_turn _ _ | exact s_esc _ _ _ | exact s_esc2 _ _ _ | exact s_one _ _ _ | exact s_two _ _ _ | exact s_tog _ _ _ _ | exact s_laid _ _ _ | exact s_back _ _ _ | exact s_dif _ _ _ | exact s_put _ _ _); (case hk => first | exact rfl | assumption); (case hd => ktr_room); (case hu => ktr_units); k_whole); intro _ _ _ _ _ _; (try dsimp only); (try k_sweep))
  k_with "mine26" => (k_here; (with_reducible first | refine c_enc _ _ ?ht ?_ | refine c_enc2 _ _ ?ht ?_); (case ht => (dsimp only; omega)); intro _ _ _; (try dsimp only))
  k_with "mine27" => (k_here; (with_reducible first | refine c_one _ _ ?ht ?_ | refine c_two _ _ ?ht ?_ | refine c_back _ _ ?ht ?_); (case ht => (dsimp only; omega)); intro _ _ _; (try dsimp only))
  k_go0
  all_goals (try k_fold)
  k_steps
end
end Mine
theorem PySem.Challenge.cw_qh0089_01_holds : PySem.Challenge.rw_qh0089_01.Holds := by
  exact Mine.law_walk
