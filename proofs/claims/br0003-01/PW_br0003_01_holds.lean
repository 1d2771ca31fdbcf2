import PyProof.Rows.All
import Wide.All
import OpenK.AllK
import Wide.FinOn
import PySem.Challenge.RW_br0003_01
open PySem PySem.W PyProof.Rows
set_option Elab.async false
set_option maxRecDepth 100000
set_option maxHeartbeats 8000000
set_option rowWalk.seconds 3000
open_top hd for PySem.Challenge.rw_br0003_01
namespace Mine
open PySem.Builtin

/- bytes ordered -/
theorem slot_bytes_lt : Slot "bytes" (cmpInfo .Lt).2.1 "bytes.__lt__" :=
  .of (owner := "bytes") (n := "__lt__") (by rw [typeLookup_type, builtinLookup_eq_fast]; kernel_rfl) (by decide +kernel) (by decide +kernel) (by decide +kernel)
    (by first | exact .inl (by decide +kernel) | exact .inr (by decide +kernel)) (by rw [isSubtype_type]; kernel_rfl)
theorem entry_bytes_lt : entryFor table "bytes.__lt__" = some Builtin.«bytes.__lt__» := entryFor_of_tree (by kernel_rfl)
theorem args_bytes_lt (a b : Value) : argsOk "bytes.__lt__" ⟨[a, b], []⟩ := by unfold argsOk; kernel_rfl
theorem gives_bytes_lt (b c : Array UInt8) (t u : Tok) : Gives («bytes.__lt__» ⟨[.bytes b t, .bytes c u], []⟩) (.val (.bool (Bytes.order b.toList c.toList == .lt))) := by
  refine .of_wp fun M A E s Q hq => ?_
  show wpAny M A (isInstance (.bytes c u) (.type "bytes") >>= fun r => _) _ E s
  refine wpAny_bind (wpAny_isInstance (typeIs_bytes s c u) F.sub_bytes_bytes ?_)
  exact wpAny_pure ⟨_, rfl, hq⟩

section
variable {prog : Program} {w : World} {A : Around} {E : Value → Shared → Prop} {s : Shared} {b c : Array UInt8} {t u : Tok}
theorem lt_bytes {Q : Value → Shared → Prop} (h : Q (.bool (Bytes.order b.toList c.toList == .lt)) s) : wpAny (model prog w) A (compareOp .Lt (.bytes b t) (.bytes c u)) Q E s :=
  compareOp_gives (op := .Lt) (typeIs_bytes s b t) (typeIs_bytes s c u) slot_bytes_lt entry_bytes_lt (args_bytes_lt _ _) (gives_bytes_lt b c t u) (fun e => nomatch e) h
theorem eqBool_bytes {Q : Bool → Shared → Prop} (h : Q (decide (b = c)) s) :
    wpAny (model prog w) A (eqBool (.bytes b t) (.bytes c u)) Q E s := by
  unfold eqBool
  show wpAny _ _ (if (Value.bytes b t == Value.bytes c u) = true then _ else _) Q E s
  by_cases hab : (Value.bytes b t == Value.bytes c u) = true
  · rw [if_pos hab]
    have e : b = c := by have := eq_of_beq hab; injection this
    subst e
    exact wpAny_bind (wpAny_rule (wpAny_pure (by simpa using h)))
  · rw [if_neg hab]
    refine wpAny_bind (show wpAny _ _ (compareOp .Eq _ _) _ _ _ from eq_bytes (wpAny_truthy_bool ?_))
    have e : (b.toList == c.toList) = decide (b = c) := by
      by_cases hne : b = c
      · subst hne; simp
      · rw [decide_eq_false hne]
        have : b.toList ≠ c.toList := fun h => hne (Array.toList_inj.mp h)
        simpa using this
    rw [e]; exact h

/- (bytes, int) < (bytes, int) -/
def keyLt (b c : Array UInt8) (m k : Int) : Bool := if b = c then decide (m < k) else Bytes.order b.toList c.toList == .lt
theorem lt_tuple_tree {x y : Addr} {ox oy : Obj} {n n' : Nat} {m k : Int} {u' v' : Tok} {P : Fin → Shared → Prop} (hx : s.heap.get? x = some ox) (dx : ox.data = .seq #[.bytes b t, .int m u'] n)
    (hy : s.heap.get? y = some oy) (cy : oy.cls = .type "tuple") (dy : oy.data = .seq #[.bytes c u, .int k v'] n') (h : P (.done (.ret (.bool (keyLt b c m k)))) s) :
    wpAny (model prog w) A (Builtin.«tuple.__lt__» ⟨[.ref x, .ref y], []⟩) P E s := by
  have hTy : s.TypeIs (.ref y) "tuple" := IsTup.typeIs ⟨oy, hy, cy, n', dy⟩
  show wpAny _ _ (isInstance (.ref y) (.type "tuple") >>= _) _ _ s
  refine wpAny_bind (wpAny_isInstance hTy isSubtype_tuple_tuple ?_)
  simp only [Bool.not_true, Bool.false_eq_true, if_false]
  refine wpAny_bind (wpAny_tupleItemsOf hx dx ?_)
  refine wpAny_bind (wpAny_tupleItemsOf hy dy ?_)
  show wpAny _ _ (forIn [(Value.bytes b t, Value.bytes c u), (Value.int m u', Value.int k v')] _ _ >>= _) _ _ _
  rw [List.forIn_cons]
  refine wpAny_bind (wpAny_bind ?_)
  refine wpAny_bind (eqBool_bytes ?_)
  by_cases hbc : b = c
  · rw [decide_eq_true hbc]
    simp only [Bool.not_true, Bool.false_eq_true, if_false]
    refine wpAny_pure ?_
    dsimp only
    rw [List.forIn_cons]
    refine wpAny_bind ?_
    refine wpAny_bind (wpAny_eqBool_int ?_)
    by_cases hmk : m = k
    · rw [show (m == k) = true from beq_iff_eq.mpr hmk]
      simp only [Bool.not_true, Bool.false_eq_true, if_false]
      refine wpAny_pure ?_
      dsimp only
      rw [List.forIn_nil]
      refine wpAny_pure ?_
      dsimp only
      have e : keyLt b c m k = false := by unfold keyLt; rw [if_pos hbc]; simp; omega
      rw [e] at h
      exact wpAny_pure h
    · rw [show (m == k) = false from beq_eq_false_iff_ne.mpr hmk]
      simp only [Bool.not_false, if_true]
      have e : keyLt b c m k = decide (m < k) := by unfold keyLt; rw [if_pos hbc]
      rw [e] at h
      exact wpAny_bind (wpAny_rule (wpAny_bind (show wpAny _ _ (compareOp .Lt _ _) _ _ _ from lt_int (wpAny_bind (wpAny_pure (wpAny_pure (wpAny_pure (wpAny_pure h))))))))
  · rw [decide_eq_false hbc]
    simp only [Bool.not_false, if_true]
    have e : keyLt b c m k = (Bytes.order b.toList c.toList == .lt) := by unfold keyLt; rw [if_neg hbc]
    rw [e] at h
    exact wpAny_bind (wpAny_rule (wpAny_bind (show wpAny _ _ (compareOp .Lt _ _) _ _ _ from lt_bytes (wpAny_bind (wpAny_pure (wpAny_pure (wpAny_pure (wpAny_pure h))))))))
theorem lt_tuple {x y : Addr} {ox oy : Obj} {n n' : Nat} {m k : Int} {u' v' : Tok} {Q : Value → Shared → Prop} (hu : A.units < cLine) (hx : s.heap.get? x = some ox) (cx : ox.cls = .type "tuple") (dx : ox.data = .seq #[.bytes b t, .int m u'] n)
    (hy : s.heap.get? y = some oy) (cy : oy.cls = .type "tuple") (dy : oy.data = .seq #[.bytes c u, .int k v'] n') (h : Q (.bool (keyLt b c m k)) s) :
    wpAny (model prog w) A (compareOp .Lt (.ref x) (.ref y)) Q E s := by
  have hTx : s.TypeIs (.ref x) "tuple" := IsTup.typeIs ⟨ox, hx, cx, n, dx⟩
  have hTy : s.TypeIs (.ref y) "tuple" := IsTup.typeIs ⟨oy, hy, cy, n', dy⟩
  exact wpAny_richCompare_same_room (op := .Lt) hTx hTy F.slot_tuple_lt
      (wpAny_call_entry F.slot_tuple_lt hTx F.entry_tuple_lt (lt_tuple_tree hx dx hy cy dy ⟨_, rfl, (fun e => nomatch e), h⟩) (F.args_tuple_lt_2 _ _)) hu

/- bytes(b), b bytes -/
theorem bb_special : typeLookup (.type "bytes") "__bytes__" = pure (some (.builtin "bytes.__bytes__")) := by rw [typeLookup_type, builtinLookup_eq_fast]; kernel_rfl
theorem bb_newCall (a : Value) : checkBuiltinCall "bytes.__new__" ⟨[.type "bytes", a], []⟩ = pure () := by kernel_rfl
theorem bytes_of_bytes_new {Q : Value → Shared → Prop} (h : Q (.bytes b t) s) :
    codeAny (model prog w) A (.call (.builtin "bytes.__new__") ⟨[.type "bytes", .bytes b t], []⟩) (wants Q E) s := by
  refine codeAny_of_tree ?_
  show wpAny _ A.in1 (do checkBuiltinCall "bytes.__new__" ⟨[.type "bytes", .bytes b t], []⟩; again (.builtin "bytes.__new__" ⟨[.type "bytes", .bytes b t], []⟩)) _ _ s
  refine wpAny_bind (wpAny_of_eq (bb_newCall _) (wpAny_pure ⟨plainId_quiet F.bm_plain _, codeAny_builtin F.bm_entry ?_⟩))
  rw [Around.under_plainId F.bm_plain _]
  unfold Builtin.«bytes.__new__»
  refine wpAny_bind (wpAny_of_eq (a := true) rfl ?_)
  refine bm_if_false rfl ?_
  refine wpAny_bind (wpAny_of_eq F.bm_sub ?_)
  refine bm_if_false rfl ?_
  refine wpAny_bind (wpAny_of_eq (F.bm_bind _) ?_)
  refine wpAny_bind (wpAny_of_eq (a := ()) rfl ?_)
  refine wpAny_bind (wpAny_of_eq (a := ()) rfl ?_)
  refine bm_if_false rfl ?_
  refine wpAny_bind (wpAny_specialOf (typeIs_bytes s b t) bb_special ?_)
  refine wpAny_bind (wpAny_rule ?_)
  refine wpAny_bind (wpAny_of_eq (a := Value.type "bytes") rfl ?_)
  refine bm_if_true rfl ?_
  exact wpAny_pure h
theorem call_bytes_bytes {Q : Value → Shared → Prop} (h : Q (.bytes b t) s) : wpAny (model prog w) A (call (.type "bytes") [.bytes b t]) Q E s := by
  refine callType_codes (Q₁ := fun obj s₁ => s₁.TypeIs obj "bytes" ∧ Q obj s₁) F.bm_called (F.bm_typeCall _) F.entry_object_init
    (bytes_of_bytes_new ⟨PySem.W.typeIs_bytes _ _ _, h⟩) fun obj s₁ h₁ => ?_
  exact ⟨h₁.1, F.args_object_init_2 obj _, object_init_meets F.bm_called.init.lookup F.bm_called.made (by decide) prog w A.in1 _ s₁ ⟨h₁.1, rfl, h₁.2⟩⟩

/- bytes(n), n an int -/
theorem bi_special : typeLookup (.type "int") "__bytes__" = pure none := by rw [typeLookup_type, builtinLookup_eq_fast]; kernel_rfl
theorem bi_index : typeLookup (.type "int") "__index__" = pure (some (.builtin "int.__index__")) := by rw [typeLookup_type, builtinLookup_eq_fast]; kernel_rfl
theorem bytes_of_int_new {n : Int} {u' : Tok} {Q : Value → Shared → Prop} (h0 : 0 ≤ n) (h1 : n ≤ 1000) (h : ∀ t' k', Q (.bytes (Array.replicate n.toNat 0) t') { s with toks := k' }) :
    codeAny (model prog w) A (.call (.builtin "bytes.__new__") ⟨[.type "bytes", .int n u'], []⟩) (wants Q E) s := by
  refine codeAny_of_tree ?_
  show wpAny _ A.in1 (do checkBuiltinCall "bytes.__new__" ⟨[.type "bytes", .int n u'], []⟩; again (.builtin "bytes.__new__" ⟨[.type "bytes", .int n u'], []⟩)) _ _ s
  refine wpAny_bind (wpAny_of_eq (bb_newCall _) (wpAny_pure ⟨plainId_quiet F.bm_plain _, codeAny_builtin F.bm_entry ?_⟩))
  rw [Around.under_plainId F.bm_plain _]
  unfold Builtin.«bytes.__new__»
  refine wpAny_bind (wpAny_of_eq (a := true) rfl ?_)
  refine bm_if_false rfl ?_
  refine wpAny_bind (wpAny_of_eq F.bm_sub ?_)
  refine bm_if_false rfl ?_
  refine wpAny_bind (wpAny_of_eq (F.bm_bind _) ?_)
  refine wpAny_bind (wpAny_of_eq (a := ()) rfl ?_)
  refine wpAny_bind (wpAny_of_eq (a := ()) rfl ?_)
  refine bm_if_false rfl ?_
  refine wpAny_bind (wpAny_specialOf (typeIs_int s n u') bi_special ?_)
  refine wpAny_bind (wpAny_of_eq (a := false) rfl ?_)
  refine bm_if_false rfl ?_
  refine wpAny_bind (wpAny_specialOf (typeIs_int s n u') bi_index ?_)
  refine bm_if_false rfl ?_
  refine wpAny_bind (wpAny_attempt (wpAny_of_eq (a := n) rfl ?_))
  dsimp only
  refine bm_if_false (by unfold Bytes.fitsIndex; simp; omega) ?_
  refine wpAny_ite_false (decide_eq_false (show ¬ (n < 0) by omega)) ?_
  refine wpAny_ite_false (decide_eq_false (show ¬ (n > 2 ^ 63 - 34) by omega)) ?_
  refine bm_if_false (KBy.tooLong_not (by omega)) ?_
  refine wpAny_bind (wpAny_rule ?_)
  refine wpAny_bind (wpAny_mkBytes ?_ (by rw [Array.size_replicate, sizeLine_eq]; omega))
  show wpAny _ _ (if (Value.type "bytes" == Value.type "bytes") = true then _ else _) _ _ _
  refine bm_if_true (by decide) ?_
  exact wpAny_pure (h _ _)
theorem call_bytes_int {n : Int} {u' : Tok} {Q : Value → Shared → Prop} (h0 : 0 ≤ n) (h1 : n ≤ 1000) (h : ∀ t' k', Q (.bytes (Array.replicate n.toNat 0) t') { s with toks := k' }) : wpAny (model prog w) A (call (.type "bytes") [.int n u']) Q E s := by
  refine callType_codes (Q₁ := fun obj s₁ => s₁.TypeIs obj "bytes" ∧ Q obj s₁) F.bm_called (F.bm_typeCall _) F.entry_object_init
    (bytes_of_int_new h0 h1 fun t' k' => ⟨PySem.W.typeIs_bytes _ _ _, h t' k'⟩) fun obj s₁ h₁ => ?_
  exact ⟨h₁.1, F.args_object_init_2 obj _, object_init_meets F.bm_called.init.lookup F.bm_called.made (by decide) prog w A.in1 _ s₁ ⟨h₁.1, rfl, h₁.2⟩⟩
end
local macro_rules | `(tactic| walk_at "call type:bytes") => `(tactic| ((with_reducible show wpAny _ _ (call (Value.type "bytes") [Value.bytes _ _]) _ _ _); refine call_bytes_bytes ?_))
local macro_rules | `(tactic| walk_at "compareOp Lt ref ref") => `(tactic| ((with_reducible show wpAny _ _ (compareOp CmpOp.Lt (Value.ref _) (Value.ref _)) _ _ _); k_dflt (refine' lt_tuple ?u ?hx ?cx ?dx ?hy ?cy ?dy ?_; (case u => k_units); (case hx => exact News.get (by k_asm) (by k_mem)); (case cx => exact rfl); (case dx => exact rfl); (case hy => exact News.get (by k_asm) (by k_mem)); (case cy => exact rfl); (case dy => exact rfl); k_whole)))
end Mine
namespace Mine

/- the sort's tree of questions, answered by keys -/
def sat (n : Nat) (key : Nat → Int) {α : Type} : KasT α → (α → Prop) → Prop
  | .ret a, G => G a
  | .ask i j k, G => i < n ∧ j < n ∧ sat n key (k (decide (key i < key j))) G
section
variable {n : Nat} {key : Nat → Int}
theorem sat_bind {α β : Type} {f : α → KasT β} {G : β → Prop} : ∀ (t : KasT α), sat n key t (fun a => sat n key (f a) G) → sat n key (t.bind f) G
  | .ret _, h => h
  | .ask _ _ k, h => ⟨h.1, h.2.1, sat_bind (k _) h.2.2⟩
theorem sat_mono {α : Type} {G G' : α → Prop} (hg : ∀ a, G a → G' a) : ∀ (t : KasT α), sat n key t G → sat n key t G'
  | .ret a, h => hg a h
  | .ask _ _ k, h => ⟨h.1, h.2.1, sat_mono hg (k _) h.2.2⟩
theorem sat_wp {α : Type} {cmp : Nat → Nat → (Bool → Shared → Prop) → Shared → Prop} {I : Shared → Prop} {G : α → Prop} {Q : α → Shared → Prop}
    (hc : ∀ i j, i < n → j < n → ∀ (C : Bool → Shared → Prop) s, I s → (∀ s', I s' → C (decide (key i < key j)) s') → cmp i j C s)
    (hq : ∀ a s, G a → I s → Q a s) : ∀ (t : KasT α) (s : Shared), sat n key t G → I s → t.kasWp cmp Q s
  | .ret a, s, h, i => hq a s h i
  | .ask _ _ k, s, h, i => hc _ _ h.1 h.2.1 _ s i fun s' i' => sat_wp hc hq (k _) s' h.2.2 i'

def Inv (n : Nat) (p : Array Nat) : Prop := p.toList.Perm (List.range n)
theorem Inv.size {p : Array Nat} (h : Inv n p) : p.size = n := by
  have := h.length_eq
  rw [Array.length_toList, List.length_range] at this
  exact this
theorem Inv.lt {p : Array Nat} (h : Inv n p) {i : Nat} (hi : i < n) : p.getD i 0 < n := by
  have hs : i < p.size := by rw [h.size]; exact hi
  have e : p.getD i 0 = p[i] := by simp [Array.getD, hs]
  rw [e]
  have hm : p[i] ∈ p.toList := by simp
  exact List.mem_range.mp (h.mem_iff.mp hm)
theorem Inv.of_perm {p p' : Array Nat} (h : Inv n p) (hp : p'.Perm p) : Inv n p' := (Array.perm_iff_toList_perm.mp hp).trans h
def kp (key : Nat → Int) (p : Array Nat) (i : Nat) : Int := key (p.getD i 0)
theorem kp_congr {p p' : Array Nat} {i j : Nat} (h : p[i]? = p'[j]?) : kp key p i = kp key p' j := by
  unfold kp
  rw [Array.getD_eq_getD_getElem?, Array.getD_eq_getD_getElem?, h]
theorem kp_rev {p : Array Nat} {i j : Nat} (hj : j ≤ p.size) (k : Nat) : kp key (kas_rev p i j) k = if i ≤ k ∧ k < j then kp key p (i + j - 1 - k) else kp key p k := by
  have e := getElem?_mirror_all (xs := p) (i := i) hj k
  by_cases h1 : i ≤ k ∧ k < j
  · rw [if_pos h1] at e ⊢; exact kp_congr e
  · rw [if_neg h1] at e ⊢; exact kp_congr e
theorem kp_bubble {p : Array Nat} {src d : Nat} (hs : src < p.size) (hd : d ≤ src) (k : Nat) :
    kp key (bubble p src d) k = if k = src - d then kp key p src else if src - d < k ∧ k ≤ src then kp key p (k - 1) else kp key p k := by
  have e := getElem?_bubble hs d hd k
  by_cases h1 : k = src - d
  · rw [if_pos h1] at e ⊢; exact kp_congr e
  · rw [if_neg h1] at e ⊢
    by_cases h2 : src - d < k ∧ k ≤ src
    · rw [if_pos h2] at e ⊢; exact kp_congr e
    · rw [if_neg h2] at e ⊢; exact kp_congr e
theorem Inv.rev {p : Array Nat} (h : Inv n p) (i j : Nat) : Inv n (kas_rev p i j) := h.of_perm (mirror_perm _ _ _ _)
def Up (key : Nat → Int) (p : Array Nat) (a : Nat) : Prop := ∀ i j, i ≤ j → j < a → kp key p i ≤ kp key p j
def Dn (key : Nat → Int) (p : Array Nat) (a : Nat) : Prop := ∀ i j, i ≤ j → j < a → kp key p j ≤ kp key p i
theorem up_one (p : Array Nat) : Up key p 1 := fun i j h1 h2 => by
  have : i = j := by omega
  subst this; exact Int.le_refl _
theorem sat_asc {p : Array Nat} (hp : Inv n p) : ∀ f a, 1 ≤ a → a + f ≤ n → Up key p a →
    sat n key (kas_asc p f a) (fun m => a ≤ m ∧ m ≤ a + f ∧ Up key p m ∧ (m < a + f → kp key p m < kp key p (m - 1)))
  | 0, a, _, _, hu => ⟨Nat.le_refl _, Nat.le_refl _, hu, fun h => by omega⟩
  | f + 1, a, h1, hn, hu => by
    refine ⟨hp.lt (by omega), hp.lt (by omega), ?_⟩
    by_cases hc : key (p.getD a 0) < key (p.getD (a - 1) 0)
    · rw [decide_eq_true hc]; dsimp only; rw [if_pos rfl]
      exact ⟨Nat.le_refl _, by omega, hu, fun _ => hc⟩
    · rw [decide_eq_false hc]; dsimp only; rw [if_neg Bool.false_ne_true]
      refine sat_mono (fun m hm => ?_) _ (sat_asc hp f (a + 1) (by omega) (by omega) ?_)
      · obtain ⟨a1, a2, a3, a4⟩ := hm
        exact ⟨by omega, by omega, a3, fun h => a4 (by omega)⟩
      · intro i j hij hj
        by_cases hja : j = a
        · subst hja
          by_cases hi : i = j
          · subst hi; exact Int.le_refl _
          · exact Int.le_trans (hu i (j - 1) (by omega) (by omega)) (Int.not_lt.mp hc)
        · exact hu i j hij (by omega)
def Run (key : Nat → Int) (p : Array Nat) (a q : Nat) : Prop := ∀ i, a - (q + 1) ≤ i → i < a → kp key p i = kp key p (a - 1)
theorem kp_rev_eq {p : Array Nat} {a q : Nat} (ha : a ≤ p.size) (hr : Run key p a q) (k : Nat) : kp key (kas_rev p (a - (q + 1)) a) k = kp key p k := by
  rw [kp_rev ha]
  split
  · rename_i h
    rw [hr _ (by omega) (by omega), hr k (by omega) (by omega)]
  · rfl
theorem sat_desc : ∀ f p a q, Inv n p → 1 ≤ a → q + 1 ≤ a → a + f ≤ n → Dn key p a → Run key p a q →
    sat n key (kas_desc f p a q) (fun r => Inv n r.1 ∧ a ≤ r.2.1 ∧ r.2.1 ≤ a + f ∧ r.2.2 + 1 ≤ r.2.1 ∧ Dn key r.1 r.2.1 ∧ Run key r.1 r.2.1 r.2.2)
  | 0, p, a, q, hp, _, hq, _, hd, hr => ⟨hp, Nat.le_refl _, Nat.le_refl _, hq, hd, hr⟩
  | f + 1, p, a, q, hp, h1, hq, hn, hd, hr => by
    have next : ∀ p' q', Inv n p' → q' + 1 ≤ a + 1 → Dn key p' (a + 1) → Run key p' (a + 1) q' →
        sat n key (kas_desc f p' (a + 1) q') (fun r => Inv n r.1 ∧ a ≤ r.2.1 ∧ r.2.1 ≤ a + (f + 1) ∧ r.2.2 + 1 ≤ r.2.1 ∧ Dn key r.1 r.2.1 ∧ Run key r.1 r.2.1 r.2.2) := by
      intro p' q' b1 b2 b3 b4
      refine sat_mono (fun r hr => ?_) _ (sat_desc f p' (a + 1) q' b1 (by omega) b2 (by omega) b3 b4)
      obtain ⟨c1, c2, c3, c4, c5, c6⟩ := hr
      exact ⟨c1, by omega, by omega, c4, c5, c6⟩
    have dn1 : ∀ p', (∀ k, kp key p' k = kp key p k) → kp key p a ≤ kp key p (a - 1) → Dn key p' (a + 1) := by
      intro p' he hle i j hij hj
      rw [he, he]
      by_cases hja : j = a
      · subst hja
        by_cases hi : i = j
        · subst hi; exact Int.le_refl _
        · exact Int.le_trans hle (hd i (j - 1) (by omega) (by omega))
      · exact hd i j hij (by omega)
    have run0 : ∀ p', Run key p' (a + 1) 0 := by
      intro p' i h2 h3
      have : i = a := by omega
      subst this; rfl
    refine ⟨hp.lt (by omega), hp.lt (by omega), ?_⟩
    by_cases hc : key (p.getD a 0) < key (p.getD (a - 1) 0)
    · rw [decide_eq_true hc]; dsimp only; rw [if_pos rfl]
      by_cases hq0 : q > 0
      · rw [if_pos hq0]
        exact next _ 0 (hp.rev _ _) (by omega) (dn1 _ (fun k => kp_rev_eq (by rw [hp.size]; omega) hr k) (Int.le_of_lt hc)) (run0 _)
      · rw [if_neg hq0]
        exact next _ 0 hp (by omega) (dn1 _ (fun k => rfl) (Int.le_of_lt hc)) (run0 _)
    · rw [decide_eq_false hc]; dsimp only; rw [if_neg Bool.false_ne_true]
      refine ⟨hp.lt (by omega), hp.lt (by omega), ?_⟩
      by_cases hd2 : key (p.getD (a - 1) 0) < key (p.getD a 0)
      · rw [decide_eq_true hd2]; dsimp only; rw [if_pos rfl]
        exact ⟨hp, Nat.le_refl _, (by show a ≤ a + (f + 1); omega), hq, hd, hr⟩
      · rw [decide_eq_false hd2]; dsimp only; rw [if_neg Bool.false_ne_true]
        have he : kp key p a = kp key p (a - 1) := Int.le_antisymm (Int.not_lt.mp hd2) (Int.not_lt.mp hc)
        refine next _ (q + 1) hp (by omega) (dn1 _ (fun k => rfl) (Int.le_of_eq he)) ?_
        intro i h2 h3
        by_cases hi : i = a
        · subst hi; rfl
        · rw [show a + 1 - 1 = a from rfl, he]
          exact hr i (by omega) (by omega)
theorem up_of_dn {p : Array Nat} {a : Nat} (ha : a ≤ p.size) (hd : Dn key p a) : Up key (kas_rev p 0 a) a := by
  intro i j hij hj
  rw [kp_rev ha, kp_rev ha, if_pos (by omega), if_pos (by omega)]
  exact hd _ _ (by omega) (by omega)
theorem sat_tail3 {p : Array Nat} {m : Nat} (hp : Inv n p) (h1 : 1 ≤ m) (hm : m ≤ n) (hd : Dn key p m) :
    sat n key (kas_tail3 m n p) (fun r => 1 ≤ r.1 ∧ r.1 ≤ n ∧ Inv n r.2 ∧ Up key r.2 r.1) := by
  unfold kas_tail3
  refine sat_bind _ (sat_mono (fun k hk => ?_) _ (sat_asc (hp.rev 0 m) (n - m) m h1 (by omega) (up_of_dn (by rw [hp.size]; exact hm) hd)))
  exact ⟨by omega, by omega, hp.rev _ _, hk.2.2.1⟩
theorem sat_descPart {p : Array Nat} {m : Nat} (hp : Inv n p) (h1 : 1 ≤ m) (hm : m < n) (hd : Dn key p (m + 1)) :
    sat n key (kas_descPart m n p) (fun r => 1 ≤ r.1 ∧ r.1 ≤ n ∧ Inv n r.2 ∧ Up key r.2 r.1) := by
  unfold kas_descPart
  refine sat_bind _ (sat_mono (fun r hr => ?_) _ (sat_desc (n - (m + 1)) p (m + 1) 0 hp (by omega) (by omega) (by omega) hd ?_))
  · obtain ⟨c1, c2, c3, c4, c5, c6⟩ := hr
    by_cases hq : r.2.2 > 0
    · rw [if_pos hq]
      refine sat_tail3 (c1.rev _ _) (by omega) (by omega) ?_
      intro i j hij hj
      rw [kp_rev_eq (by rw [c1.size]; omega) c6, kp_rev_eq (by rw [c1.size]; omega) c6]
      exact c5 i j hij hj
    · rw [if_neg hq]
      exact sat_tail3 c1 (by omega) (by omega) c5
  · intro i h2 h3
    have : i = m := by omega
    subst this; rfl
theorem sat_count {p : Array Nat} (hp : Inv n p) (hn : 1 ≤ n) : sat n key (kas_count n p) (fun r => 1 ≤ r.1 ∧ r.1 ≤ n ∧ Inv n r.2 ∧ Up key r.2 r.1) := by
  unfold kas_count
  refine sat_bind _ (sat_mono (fun m hm => ?_) _ (sat_asc hp (n - 1) 1 (Nat.le_refl _) (by omega) (up_one p)))
  obtain ⟨a1, a2, a3, a4⟩ := hm
  by_cases e1 : (m == n) = true
  · rw [if_pos e1]
    have : m = n := beq_iff_eq.mp e1
    exact ⟨a1, by omega, hp, a3⟩
  · rw [if_neg e1]
    have hlt : m < n := by
      have : m ≠ n := fun q => e1 (beq_iff_eq.mpr q)
      omega
    have hlast := a4 (by omega)
    by_cases e2 : m > 1
    · rw [if_pos e2]
      refine ⟨hp.lt (by omega), hp.lt (by omega), ?_⟩
      by_cases hc : key (p.getD 0 0) < key (p.getD (m - 1) 0)
      · rw [decide_eq_true hc]; dsimp only; rw [if_pos rfl]
        exact ⟨a1, by omega, hp, a3⟩
      · rw [decide_eq_false hc]; dsimp only; rw [if_neg Bool.false_ne_true]
        have heq : ∀ i, i < m → kp key p i = kp key p 0 := fun i hi =>
          Int.le_antisymm (Int.le_trans (a3 i (m - 1) (by omega) (by omega)) (Int.not_lt.mp hc)) (a3 0 i (by omega) hi)
        have hk : ∀ k, k < m + 1 → kp key (kas_rev p 0 m) k = kp key p k := by
          intro k hk
          rw [kp_rev (by rw [hp.size]; omega)]
          split
          · rw [heq _ (by omega), heq k (by omega)]
          · rfl
        refine sat_descPart (hp.rev _ _) a1 hlt ?_
        intro i j hij hj
        rw [hk i (by omega), hk j hj]
        by_cases hjm : j = m
        · subst hjm
          by_cases hi : i = j
          · subst hi; exact Int.le_refl _
          · rw [heq i (by omega), ← heq (j - 1) (by omega)]
            exact Int.le_of_lt hlast
        · rw [heq i (by omega), heq j (by omega)]
          exact Int.le_refl _
    · rw [if_neg e2]
      have hm1 : m = 1 := by omega
      subst hm1
      refine sat_descPart hp a1 hlt ?_
      intro i j hij hj
      by_cases hi : i = j
      · subst hi; exact Int.le_refl _
      · have e0 : i = 0 := by omega
        have e3 : j = 1 := by omega
        subst e0; subst e3
        exact Int.le_of_lt hlast
theorem sat_place {p : Array Nat} {k : Nat} (hp : Inv n p) (hk : k < n) (hu : Up key p k) : ∀ f l r, l ≤ r → r ≤ k → r - l ≤ f → (∀ i, i < l → kp key p i ≤ kp key p k) → (∀ i, r ≤ i → i < k → kp key p k < kp key p i) →
    sat n key (kas_place p k f l r) (fun l => l ≤ k ∧ (∀ i, i < l → kp key p i ≤ kp key p k) ∧ (∀ i, l ≤ i → i < k → kp key p k < kp key p i))
  | 0, l, r, h1, h2, h3, hlo, hhi => by
    have : l = r := by omega
    subst this
    exact ⟨h2, hlo, hhi⟩
  | f + 1, l, r, h1, h2, h3, hlo, hhi => by
    unfold kas_place
    by_cases hlr : l ≥ r
    · rw [if_pos hlr]
      have : l = r := by omega
      subst this
      exact ⟨h2, hlo, hhi⟩
    · rw [if_neg hlr]
      refine ⟨hp.lt hk, hp.lt (by omega), ?_⟩
      by_cases hc : key (p.getD k 0) < key (p.getD ((l + r) / 2) 0)
      · rw [decide_eq_true hc]; dsimp only; rw [if_pos rfl]
        refine sat_place hp hk hu f l ((l + r) / 2) (by omega) (by omega) (by omega) hlo fun i h4 h5 => ?_
        exact Int.lt_of_lt_of_le hc (hu _ _ h4 h5)
      · rw [decide_eq_false hc]; dsimp only; rw [if_neg Bool.false_ne_true]
        refine sat_place hp hk hu f ((l + r) / 2 + 1) r (by omega) h2 (by omega) (fun i h4 => ?_) hhi
        exact Int.le_trans (hu i ((l + r) / 2) (by omega) (by omega)) (Int.not_lt.mp hc)
theorem sat_bin : ∀ f p k, Inv n p → 1 ≤ k → k + f = n → Up key p k → sat n key (kas_bin f p k) (fun p' => Inv n p' ∧ Up key p' n)
  | 0, p, k, hp, _, hf, hu => ⟨hp, by rw [show n = k by omega]; exact hu⟩
  | f + 1, p, k, hp, h1, hf, hu => by
    unfold kas_bin
    refine sat_bind _ (sat_mono (fun l hl => ?_) _ (sat_place hp (by omega) hu k 0 k (Nat.zero_le _) (Nat.le_refl _) (Nat.le_refl _) (fun i hi => by omega) fun i h4 h5 => by omega))
    obtain ⟨b1, hlo, hhi⟩ := hl
    refine sat_bin f _ (k + 1) (hp.of_perm (bubble_perm _ _ _)) (by omega) (by omega) ?_
    intro i j hij hj
    have hks : k < p.size := by rw [hp.size]; omega
    rw [kp_bubble hks (by omega), kp_bubble hks (by omega), show k - (k - l) = l by omega]
    repeat' split
    all_goals first
      | (exfalso; omega)
      | exact Int.le_refl _
      | exact hlo _ (by omega)
      | exact Int.le_of_lt (hhi _ (by omega) (by omega))
      | exact hu _ _ (by omega) (by omega)
theorem sat_sort (hn : 1 ≤ n) : sat n key (kas_sort n) (fun p => Inv n p ∧ Up key p n) := by
  unfold kas_sort
  refine sat_bind _ (sat_mono (fun r hr => ?_) _ (sat_count (p := List.toArray (List.range n)) (List.Perm.refl _) hn))
  obtain ⟨a1, a2, a3, a4⟩ := hr
  by_cases hlt : r.1 < n
  · rw [if_pos hlt]
    rw [show max r.1 1 = r.1 by omega]
    exact sat_bin _ _ _ a3 a1 (by omega) a4
  · rw [if_neg hlt]
    rw [show r.1 = n by omega] at a4
    exact ⟨a3, a4⟩
end
end Mine
namespace Mine

abbrev RR := Int × Int
/- two rows, item by item -/
def All2 (R : Value → RR → Prop) : List Value → List RR → Prop
  | [], [] => True
  | v :: vs, r :: rs => R v r ∧ All2 R vs rs
  | _, _ => False
section
variable {R R' : Value → RR → Prop} {vs us : List Value} {rs qs : List RR}
theorem All2.length : ∀ {vs : List Value} {rs : List RR}, All2 R vs rs → vs.length = rs.length
  | [], [], _ => rfl
  | _ :: _, _ :: _, h => by simp [All2.length h.2]
  | [], _ :: _, h => h.elim
  | _ :: _, [], h => h.elim
theorem All2.get : ∀ {vs : List Value} {rs : List RR}, All2 R vs rs → ∀ {i : Nat} (hi : i < rs.length), ∃ v, vs[i]? = some v ∧ R v rs[i]
  | [], [], _, i, hi => absurd hi (Nat.not_lt_zero _)
  | v :: vs, r :: rs, h, 0, _ => ⟨v, rfl, h.1⟩
  | v :: vs, r :: rs, h, i + 1, hi => by
    obtain ⟨u, hu, hr⟩ := All2.get h.2 (i := i) (by simpa using hi)
    exact ⟨u, by simpa using hu, by simpa using hr⟩
  | [], _ :: _, h, _, _ => h.elim
  | _ :: _, [], h, _, _ => h.elim
theorem All2.mono (hm : ∀ v r, R v r → R' v r) : ∀ {vs : List Value} {rs : List RR}, All2 R vs rs → All2 R' vs rs
  | [], [], _ => trivial
  | _ :: _, _ :: _, h => ⟨hm _ _ h.1, All2.mono hm h.2⟩
  | [], _ :: _, h => h.elim
  | _ :: _, [], h => h.elim
theorem All2.append (k : All2 R us qs) : ∀ {vs : List Value} {rs : List RR}, All2 R vs rs → All2 R (vs ++ us) (rs ++ qs)
  | [], [], _ => k
  | _ :: _, _ :: _, h => ⟨h.1, All2.append k h.2⟩
  | [], _ :: _, h => h.elim
  | _ :: _, [], h => h.elim
theorem All2.snoc {v : Value} {r : RR} (h : All2 R vs rs) (hr : R v r) : All2 R (vs ++ [v]) (rs ++ [r]) := All2.append (us := [v]) (qs := [r]) ⟨hr, trivial⟩ h
theorem All2.getD {d : RR} (h : All2 R vs rs) {i : Nat} (hi : i < rs.length) : R (vs.getD i Value.none) (rs.getD i d) := by
  obtain ⟨v, hv, hr⟩ := h.get hi
  rw [List.getD_eq_getElem?_getD, hv, List.getD_eq_getElem?_getD, List.getElem?_eq_getElem hi]
  exact hr
theorem All2.pick {d : RR} (h : All2 R vs rs) : ∀ l : List Nat, (∀ i ∈ l, i < rs.length) → All2 R (l.map fun i => vs.getD i Value.none) (l.map fun i => rs.getD i d)
  | [], _ => trivial
  | i :: l, hl => ⟨h.getD (hl i (.head _)), All2.pick h l fun j hj => hl j (.tail _ hj)⟩
theorem All2.mem_left : ∀ {vs : List Value} {rs : List RR}, All2 R vs rs → ∀ v ∈ vs, ∃ r ∈ rs, R v r
  | [], [], _, v, hv => nomatch hv
  | _ :: _, r :: _, h, v, hv => by
    rcases List.mem_cons.mp hv with rfl | hv
    · exact ⟨r, .head _, h.1⟩
    · obtain ⟨q, hq, hr⟩ := All2.mem_left h.2 v hv
      exact ⟨q, .tail _ hq, hr⟩
  | [], _ :: _, h, _, _ => h.elim
  | _ :: _, [], h, _, _ => h.elim
end
theorem range_pick (rs : List RR) (d : RR) : (List.range rs.length).map (fun i => rs.getD i d) = rs := by
  refine List.ext_getElem (by simp) fun i h1 h2 => ?_
  simp [List.getElem?_eq_getElem h2]
/- the sort's answer as a row -/
def byKey (key : RR → Int) (rs : List RR) : Prop := ∀ i j, i ≤ j → j < rs.length → key (rs.getD i (0, 0)) ≤ key (rs.getD j (0, 0))
theorem sorted_row {rs : List RR} {key : RR → Int} {p : Array Nat} (hp : Inv rs.length p) (hu : Up (fun i => key (rs.getD i (0, 0))) p rs.length) :
    (p.toList.map fun i => rs.getD i (0, 0)).Perm rs ∧ byKey key (p.toList.map fun i => rs.getD i (0, 0)) := by
  refine ⟨?_, ?_⟩
  · have h1 := List.Perm.map (fun i => rs.getD i (0, 0)) hp
    rw [range_pick] at h1
    exact h1
  · intro i j hij hj
    rw [List.length_map, Array.length_toList, hp.size] at hj
    have e : ∀ k, k < rs.length → (p.toList.map fun i => rs.getD i (0, 0)).getD k (0, 0) = rs.getD (p.getD k 0) (0, 0) := by
      intro k hk
      have hk' : k < p.size := by rw [hp.size]; exact hk
      simp [List.getD_eq_getElem?_getD, Array.getD, hk']
    rw [e i (by omega), e j hj]
    exact hu i j hij hj

/- one object of the text's class; one made pair -/
abbrev cdict (w : World) (b : Array UInt8) (m : Int) (t1 t2 t3 t4 t5 : Tok) : Obj :=
  dictOf [⟨PyData.keyHash w.params (Str.ofString "_packed"), .str (Str.ofString "_packed") t1, .bytes b t2⟩, ⟨PyData.keyHash w.params (Str.ofString "mask"), .str (Str.ofString "mask") t3, .int m t4⟩, ⟨PyData.keyHash w.params (Str.ofString "_ip"), .str (Str.ofString "_ip") t5, .none⟩] 3
abbrev pairObj (a b : Value) : Obj := { cls := .type "tuple", data := .seq #[a, b] }
def big4 (x : Int) : List Int := [x / 256 / 256 / 256 % 256, x / 256 / 256 % 256, x / 256 % 256, x % 256]
def PairIn (tl : List (Addr × Obj)) (v : Value) (r : RR) : Prop := ∃ a t t', v = .ref a ∧ (a, pairObj (.int r.1 t) (.int r.2 t')) ∈ tl
def CidrIn (w : World) (tl : List (Addr × Obj)) (v : Value) (r : RR) : Prop :=
  ∃ x dx b t1 t2 t3 t4 t5, v = .ref x ∧ (x, instObj 146 dx) ∈ tl ∧ (dx, cdict w b r.1 t1 t2 t3 t4 t5) ∈ tl ∧ KBw.bInts b = big4 r.2
theorem PairIn.mono {tl tl' : List (Addr × Obj)} (h : ∀ p ∈ tl, p ∈ tl') {v : Value} {r : RR} : PairIn tl v r → PairIn tl' v r
  | ⟨a, t, t', e, m⟩ => ⟨a, t, t', e, h _ m⟩
theorem CidrIn.mono {w : World} {tl tl' : List (Addr × Obj)} (h : ∀ p ∈ tl, p ∈ tl') {v : Value} {r : RR} : CidrIn w tl v r → CidrIn w tl' v r
  | ⟨x, dx, b, t1, t2, t3, t4, t5, e, m, m', hb⟩ => ⟨x, dx, b, t1, t2, t3, t4, t5, e, h _ m, h _ m', hb⟩

/- what a row of the law's is -/
structure Good (r : RR) : Prop where
  lo : 0 ≤ r.1
  hi : r.1 ≤ 32
  nlo : 0 ≤ r.2
  nhi : r.2 < 4294967296
  cut : ∃ q : Int, r.2 = q * 2 ^ (32 - r.1).toNat
def ckey (r : RR) : Int := r.2 * 64 + r.1
def tkey (r : RR) : Int := r.1 * 4294967296 + r.2

theorem big4_value (x : Int) (h0 : 0 ≤ x) (h1 : x < 4294967296) : x = ((x / 256 / 256 / 256 % 256 * 256 + x / 256 / 256 % 256) * 256 + x / 256 % 256) * 256 + x % 256 := by omega
theorem bInts_cons {c : UInt8} {l : List UInt8} {ks : List Int} (h : KBw.bInts (c :: l).toArray = ks) : ∃ k r, ks = k :: r ∧ (c.toNat : Int) = k ∧ KBw.bInts l.toArray = r := by
  refine ⟨_, _, h.symm, rfl, rfl⟩
theorem bInts_nil {l : List UInt8} (h : KBw.bInts l.toArray = []) : l = [] := by
  unfold KBw.bInts at h
  simpa using h
theorem bInts_inj {b c : Array UInt8} (h : KBw.bInts b = KBw.bInts c) : b = c := by
  unfold KBw.bInts at h
  apply Array.toList_inj.mp
  refine List.map_inj_right (f := fun c : UInt8 => (c.toNat : Int)) ?_ |>.mp h
  intro x y e
  exact UInt8.toNat_inj.mp (Int.ofNat.inj e)
theorem order_lt : ∀ (l k : List UInt8), (Builtin.Bytes.order l k == .lt) = true ↔ List.map (fun c : UInt8 => (c.toNat : Int)) l < List.map (fun c : UInt8 => (c.toNat : Int)) k
  | [], [] => by simp [Builtin.Bytes.order]
  | [], _ :: _ => by simp [Builtin.Bytes.order]
  | _ :: _, [] => by simp [Builtin.Bytes.order]
  | x :: a, y :: b => by
    have ih := order_lt a b
    simp only [Builtin.Bytes.order, List.map_cons, List.cons_lt_cons_iff]
    by_cases h1 : x < y
    · have : (x.toNat : Int) < y.toNat := Int.ofNat_lt.mpr (UInt8.lt_iff_toNat_lt.mp h1)
      simp [h1, this]
    · by_cases h2 : x > y
      · have : (y.toNat : Int) < x.toNat := Int.ofNat_lt.mpr (UInt8.lt_iff_toNat_lt.mp h2)
        have hn : ¬ ((x.toNat : Int) < y.toNat) := by omega
        have he : ¬ ((x.toNat : Int) = y.toNat) := by omega
        simp only [h1, h2, if_false, if_true, hn, he, false_and, or_self, iff_false]
        decide
      · have : x = y := UInt8.le_antisymm (UInt8.not_lt.mp h2) (UInt8.not_lt.mp h1)
        subst this
        simp only [h1, h2, if_false, Int.lt_irrefl, true_and, false_or]
        exact ih
theorem keyLt_eq {b c : Array UInt8} {r q : RR} (hb : KBw.bInts b = big4 r.2) (hc : KBw.bInts c = big4 q.2) (hr : Good r) (hq : Good q) : keyLt b c r.1 q.1 = decide (ckey r < ckey q) := by
  have e1 := big4_value r.2 hr.nlo hr.nhi
  have e2 := big4_value q.2 hq.nlo hq.nhi
  have r1 := hr.lo
  have r2 := hr.hi
  have q1 := hq.lo
  have q2 := hq.hi
  unfold keyLt ckey
  by_cases h : b = c
  · have e : r.2 = q.2 := by
      have e3 : big4 r.2 = big4 q.2 := by rw [← hb, ← hc, h]
      unfold big4 at e3
      simp only [List.cons.injEq, and_true] at e3
      omega
    rw [if_pos h, e]
    by_cases hm : r.1 < q.1
    · rw [decide_eq_true hm, decide_eq_true (by omega)]
    · rw [decide_eq_false hm, decide_eq_false (by omega)]
  · have hne : r.2 ≠ q.2 := fun e => h (bInts_inj (by rw [hb, hc, e]))
    rw [if_neg h]
    have key : (Builtin.Bytes.order b.toList c.toList == .lt) = true ↔ r.2 * 64 + r.1 < q.2 * 64 + q.1 := by
      rw [order_lt]
      have a1 : List.map (fun c : UInt8 => (c.toNat : Int)) b.toList = big4 r.2 := hb
      have a2 : List.map (fun b : UInt8 => (b.toNat : Int)) c.toList = big4 q.2 := hc
      rw [a1, a2]
      unfold big4
      simp only [List.cons_lt_cons_iff, List.lt_irrefl, and_false, or_false]
      omega
    by_cases hm : r.2 * 64 + r.1 < q.2 * 64 + q.1
    · rw [decide_eq_true hm]; exact key.mpr hm
    · rw [decide_eq_false hm]
      cases hv : (Builtin.Bytes.order b.toList c.toList == .lt) with
      | true => exact absurd (key.mp hv) hm
      | false => rfl
end Mine
namespace Mine
abbrev PG : Program := PySem.Challenge.rw_br0003_01.row.prog
abbrev lenv (nms : List (Str × NameKind)) (more : List (Str × Const)) (L fa : Addr) (cdv : Value) : Env :=
  envOfC (Str.ofString "law") { kind := .function, names := nms, isGenerator := false, isCoroutine := false, more := more } L fa cdv
abbrev TopL (s₀ : Shared) (mg mb : Str → Option Value) (h₀ : Heap) : Prop := Top hd.view_39 (looseW hd.view_39 [Str.ofString "CIDR"]) (ExcName.means s₀.heap) mg mb h₀

local macro_rules | `(tactic| walk_at "call type:bytes") => `(tactic| ((with_reducible show wpAny _ _ (call (Value.type "bytes") [Value.bytes _ _]) _ _ _); refine call_bytes_bytes ?_))
local macro_rules | `(tactic| walk_at "compareOp Lt ref ref") => `(tactic| ((with_reducible show wpAny _ _ (compareOp CmpOp.Lt (Value.ref _) (Value.ref _)) _ _ _); k_dflt (refine' lt_tuple ?u ?hx ?cx ?dx ?hy ?cy ?dy ?_; (case u => k_units); (case hx => exact News.get (by k_asm) (by k_mem)); (case cx => exact rfl); (case dx => exact rfl); (case hy => exact News.get (by k_asm) (by k_mem)); (case cy => exact rfl); (case dy => exact rfl); k_whole)))

theorem lt_c {w : World} {s₀ : Shared} {mg mb : Str → Option Value} {h₀ : Heap} {nms : List (Str × NameKind)} {more : List (Str × Const)} {L fa : Addr} {cdv : Value} {m : Str → Option Value}
    {news : List (Addr × Obj)} {s : Shared} {x y dx dy : Addr} {bx : Array UInt8} {mx : Int} {tx1 tx2 tx3 tx4 tx5 : Tok} {bY : Array UInt8} {mY : Int} {ty1 ty2 ty3 ty4 ty5 : Tok} {Q : Value → Shared → Prop} {E : Value → Shared → Prop} :
    (PySem.Challenge.rw_br0003_01.Holds → True) → (hd.heap_39 w.params).In h₀ → TopL s₀ mg mb h₀ → Below callerA h₀ [] h₀ →
    Fr h₀ L s.heap m → News h₀ L s.heap ((x, instObj 146 dx) :: (dx, cdict w bx mx tx1 tx2 tx3 tx4 tx5) :: (y, instObj 146 dy) :: (dy, cdict w bY mY ty1 ty2 ty3 ty4 ty5) :: news) →
    (∀ h' tk, Fr h₀ L h' m → News h₀ L h' news → Q (.bool (keyLt bx bY mx mY)) { s with heap := h', toks := tk }) →
    wpAny (model PG w) (callerA.deeper (lenv nms more L fa cdv)).in1.in1 (call (.ref 81) [.ref x, .ref y]) Q E s := by
  w_top off
  k_fill
  intro _ KX T K0 F N hQ
  k_steps
  refine hQ _ _ (by assumption) (kst_newsOf (by assumption) ?_)
  intro p hp
  simp [hp]

theorem cidr_lt {w : World} {s₀ : Shared} {mg mb : Str → Option Value} {h₀ : Heap} {nms : List (Str × NameKind)} {more : List (Str × Const)} {L fa : Addr} {cdv : Value} {m : Str → Option Value}
    {news : List (Addr × Obj)} {s : Shared} {u v : Value} {r q : RR} {Q : Bool → Shared → Prop} {E : Value → Shared → Prop} :
    (PySem.Challenge.rw_br0003_01.Holds → True) → (hd.heap_39 w.params).In h₀ → TopL s₀ mg mb h₀ → Below callerA h₀ [] h₀ →
    Fr h₀ L s.heap m → News h₀ L s.heap news → CidrIn w news u r → CidrIn w news v q → Good r → Good q →
    (∀ h' tk, Fr h₀ L h' m → News h₀ L h' news → Q (decide (ckey r < ckey q)) { s with heap := h', toks := tk }) →
    wpAny (model PG w) (callerA.deeper (lenv nms more L fa cdv)).in1.in1 (keyLt' oneType' u v) Q E s := by
  w_top off
  k_fill
  rintro hk KX T K0 F N ⟨x, dx, bx, tx1, tx2, tx3, tx4, tx5, rfl, hx, hdx, hbx⟩ ⟨y, dy, bY, ty1, ty2, ty3, ty4, ty5, rfl, hy, hdy, hbY⟩ gr gq hQ
  k_dflt (refine' kas_lt_inst (K := hd.heap_39 w.params) (f := 81) ?k1 F KX (InstAt.of_news N hx hdx) ?k5 ?k6 ?_; (case k1 => k_units); (case k5 => k_is); (case k6 => k_is))
  refine lt_c (dx := dx) (dy := dy) (bx := bx) (bY := bY) (mx := r.1) (mY := q.1) (tx1 := tx1) (tx2 := tx2) (tx3 := tx3) (tx4 := tx4) (tx5 := tx5) (ty1 := ty1) (ty2 := ty2) (ty3 := ty3) (ty4 := ty4) (ty5 := ty5) hk KX T K0 F (news := news) (kst_newsOf N ?_) fun h' tk F' N' => ?_
  · intro p hp
    rcases List.mem_cons.mp hp with rfl | hp
    · exact hx
    rcases List.mem_cons.mp hp with rfl | hp
    · exact hdx
    rcases List.mem_cons.mp hp with rfl | hp
    · exact hy
    rcases List.mem_cons.mp hp with rfl | hp
    · exact hdy
    exact hp
  · rw [keyLt_eq hbx hbY gr gq]
    exact hQ h' tk F' N'

/- sorted over one item -/
theorem sorted_one {prog : Program} {w : World} {A : Around} {E : Value → Shared → Prop} {s : Shared} {h₀ : Heap} {L l : Addr} {m : Str → Option Value} {news : List (Addr × Obj)} {vs : List Value} {Q : Value → Shared → Prop}
    (F : Fr h₀ L s.heap m) (N : News h₀ L s.heap news) (hl : s.heap.IsList l vs.toArray) (h1 : vs.length < 2)
    (h : ∀ D c h', Fr h₀ L h' m → News h₀ L h' ((D, W.listOf vs.toArray c) :: news) → (∀ q ∈ news, q.1 < D) → Q (.ref D) { s with heap := h' }) :
    wpAny (model prog w) A (call (.builtin "sorted") [.ref l]) Q E s := by
  refine Calls.call_function_entry kind_sorted plain_sorted entry_sorted (args_sorted1 _) ?_
  unfold Builtin.«sorted»
  refine wpAny_bind (m := checkCount "sorted" 1 1 _) (wpAny_pure ?_)
  refine wpAny_bind (collect_list hl ?_ (by rw [sizeLine_eq]; omega))
  refine wpAny_bind (wpAny_newList ?_ (by rw [sizeLine_eq]; omega))
  have hsz : ((s.heap.push (seqObj "list" #[] 0)).update s.heap.objs.size (Obj.mapSeq (· ++ vs.toArray))).objs.size = s.heap.objs.size + 1 := by
    rw [Heap.size_update, size_push']
  have hoL : (((s.heap.push (seqObj "list" #[] 0)).update s.heap.objs.size (Obj.mapSeq (· ++ vs.toArray))).push (seqObj "list" vs.toArray 0)).get? (s.heap.objs.size + 1) = some (seqObj "list" vs.toArray 0) := by
    rw [← hsz]; exact Heap.get?_push_size _ rfl
  have keep : ∀ b o, s.heap.get? b = some o → (((s.heap.push (seqObj "list" #[] 0)).update s.heap.objs.size (Obj.mapSeq (· ++ vs.toArray))).push (seqObj "list" vs.toArray 0)).get? b = some o := fun b o q => by
    have hlt : b < s.heap.objs.size := Heap.lt_size q
    rw [Heap.get?_push_ne _ _ _ (by rw [hsz]; exact Nat.ne_of_lt (Nat.lt_succ_of_lt hlt)), Heap.get?_update_ne _ _ _ _ (Nat.ne_of_lt hlt), Heap.get?_push_ne _ _ _ (Nat.ne_of_lt hlt)]
    exact q
  have hL : L < s.heap.objs.size := F.ns.lt
  show wpAny _ _ _ _ _ { s with heap := ((s.heap.push (seqObj "list" #[] 0)).update s.heap.objs.size (Obj.mapSeq (· ++ vs.toArray))).push (seqObj "list" vs.toArray 0) }
  rw [hsz]
  generalize hH : ((s.heap.push (seqObj "list" #[] 0)).update s.heap.objs.size (Obj.mapSeq (· ++ vs.toArray))).push (seqObj "list" vs.toArray 0) = H at hoL keep ⊢
  have F1 : Fr h₀ L H m := F.kept keep
  have N1 : News h₀ L H news := N.grown keep
  have ha0 : h₀.get? (s.heap.objs.size + 1) = none := Heap.get?_none_of_le (Nat.le_trans F.above (Nat.le_succ_of_le (Nat.le_of_lt hL)))
  have haL : s.heap.objs.size + 1 ≠ L := Nat.ne_of_gt (Nat.lt_succ_of_lt hL)
  have hlo : ∀ q ∈ news, q.1 < s.heap.objs.size + 1 := fun q hq => Nat.lt_succ_of_lt (Heap.lt_size (N q hq).1)
  have hna : ∀ q ∈ news, q.1 ≠ s.heap.objs.size + 1 := fun q hq => Nat.ne_of_lt (hlo q hq)
  generalize s.heap.objs.size + 1 = a at *
  refine wpAny_bind (wpAny_holding (wpAny_call_entry slot_list_sort ⟨_, hoL, rfl⟩ entry_list_sort ?body (args_list_sort _)))
  case body =>
    rw [list_sort_plain]
    have ha : a < H.objs.size := Heap.lt_size hoL
    have s1 := Heap.SameBut.update H a (Obj.mapSeq fun _ => (#[] : Array Value))
    obtain ⟨e1, ho1⟩ : ∃ e1, (H.update a (Obj.mapSeq fun _ => (#[] : Array Value))).get? a = some (seqObj "list" #[] e1) := ⟨_, get?_update_seq hoL fun _ => #[]⟩
    have F3 : Fr h₀ L (((H.update a (Obj.mapSeq fun _ => (#[] : Array Value))).push (seqObj "tuple" vs.toArray 0)).push (seqObj "list" #[] 0)) m := ((kas_fr F1 s1 haL ha0).push _).push _
    have N2 : News h₀ L (((H.update a (Obj.mapSeq fun _ => (#[] : Array Value))).push (seqObj "tuple" vs.toArray 0)).push (seqObj "list" #[] 0)) news :=
      (kas_news N1 s1 hna).grown fun b x e => Heap.get?_push_of_some _ (Heap.get?_push_of_some _ e)
    have ho6 : (((H.update a (Obj.mapSeq fun _ => (#[] : Array Value))).push (seqObj "tuple" vs.toArray 0)).push (seqObj "list" #[] 0)).get? a = some (seqObj "list" #[] e1) := Heap.get?_push_of_some _ (Heap.get?_push_of_some _ ho1)
    refine wpAny_bind (listItems_at hoL rfl ?_)
    refine wpAny_bind (listUpdate_at hoL rfl ?_ (by rw [List.size_toArray, sizeLine_eq]; omega) (Nat.zero_le _))
    refine wpAny_bind (seqEpoch_at ho1 rfl ?_)
    refine wpAny_bind (wpAny_newTuple ?_ (by show vs.length ≤ _; rw [sizeLine_eq]; omega))
    refine wpAny_bind (wpAny_newList ?_ (Nat.zero_le _))
    refine wpAny_holding ?_
    show wpAny (model prog w) A.in1.in1 _ _ E { s with heap := ((H.update a (Obj.mapSeq fun _ => (#[] : Array Value))).push (seqObj "tuple" vs.toArray 0)).push (seqObj "list" #[] 0) }
    generalize ((H.update a (Obj.mapSeq fun _ => (#[] : Array Value))).push (seqObj "tuple" vs.toArray 0)).push (seqObj "list" #[] 0) = H2 at F3 N2 ho6 ⊢
    dsimp only
    have hn2 : vs.toArray.size < 2 := by rw [List.size_toArray]; exact h1
    rw [if_pos hn2, if_pos hn2]
    refine wpAny_bind (wpAny_pure ?_)
    rw [StateT.run_pure]
    refine wpAny_bind (wpAny_pure ?_)
    dsimp only
    refine wpAny_bind (seqEpoch_at ho6 rfl ?_)
    have hz : (Array.map (·.2) (vs.toArray.zip vs.toArray)) = vs.toArray := by
      apply Array.toList_inj.mp
      simp only [Array.toList_map, Array.toList_zip, List.toList_toArray]
      exact List.map_snd_zip (Nat.le_refl _)
    have hz' : (arrOf (SortSt.mk' general' (vs.toArray.zip vs.toArray) #[] 7 none)).map (·.2) = vs.toArray := hz
    rw [hz']
    have s2 := Heap.SameBut.update H2 a (Obj.mapSeq fun _ => vs.toArray)
    obtain ⟨c2, hc2⟩ : ∃ c2, (H2.update a (Obj.mapSeq fun _ => vs.toArray)).get? a = some (seqObj "list" vs.toArray c2) := ⟨_, get?_update_seq ho6 fun _ => vs.toArray⟩
    refine wpAny_bind (listUpdate_at ho6 rfl ?_ (Nat.zero_le _) (by rw [List.size_toArray, sizeLine_eq]; omega))
    simp only [bne_self_eq_false, Bool.false_eq_true, if_false]
    refine wpAny_pure ⟨_, rfl, wpAny_pure ⟨_, rfl, h a c2 _ (kas_fr F3 s2 haL ha0) (fun p hp => ?_) hlo⟩⟩
    rcases List.mem_cons.mp hp with rfl | hp
    · exact ⟨hc2, haL, ha0⟩
    · exact kas_news N2 s2 hna p hp

/- sorted over objects of the class -/
theorem cidr_sorted {w : World} {s₀ : Shared} {mg mb : Str → Option Value} {h₀ : Heap} {nms : List (Str × NameKind)} {more : List (Str × Const)} {L fa : Addr} {cdv : Value} {m : Str → Option Value}
    {news tl : List (Addr × Obj)} {s : Shared} {l : Addr} {vs : List Value} {rs : List RR} {Q : Value → Shared → Prop} {E : Value → Shared → Prop} :
    (PySem.Challenge.rw_br0003_01.Holds → True) → (hd.heap_39 w.params).In h₀ → TopL s₀ mg mb h₀ → Below callerA h₀ [] h₀ →
    Fr h₀ L s.heap m → News h₀ L s.heap news → s.heap.IsList l vs.toArray → (∀ p ∈ tl, p ∈ news) → All2 (CidrIn w tl) vs rs → (∀ r ∈ rs, Good r) → rs.length < 64 →
    (∀ D c h' tk vs' rs', Fr h₀ L h' m → News h₀ L h' ((D, W.listOf vs'.toArray c) :: news) → (∀ q ∈ news, q.1 < D) → All2 (CidrIn w tl) vs' rs' → rs'.Perm rs → byKey ckey rs' → Q (.ref D) { s with heap := h', toks := tk }) →
    wpAny (model PG w) (callerA.deeper (lenv nms more L fa cdv)) (call (.builtin "sorted") [.ref l]) Q E s := by
  intro hk KX T K0 F N hl hs hc hg h64 hQ
  have hlen := hc.length
  by_cases h2 : vs.length < 2
  · refine sorted_one F N hl h2 fun D c h' F' N' hlt => hQ D c h' s.toks vs rs F' N' hlt hc (List.Perm.refl _) ?_
    intro i j hij hj
    have : i = j := by omega
    subst this; exact Int.le_refl _
  · refine kas_sorted (T := .ref 146) F N hl (by omega) (by omega) (fun h F' N' v hv => ?_) (by decide) fun D e1 h' F' N' hlt => ?_
    · obtain ⟨r, _, x, dx, b, t1, t2, t3, t4, t5, rfl, hx, hdx, _⟩ := hc.mem_left v hv
      exact InstAt.type (InstAt.of_news N' (hs _ hx) (hs _ hdx))
    · refine sat_wp (n := rs.length) (key := fun i => ckey (rs.getD i (0, 0))) (I := fun s' => ∃ h'' tk, s' = { s with heap := h'', toks := tk } ∧ Fr h₀ L h'' m ∧ News h₀ L h'' ((D, seqObj "list" #[] e1) :: news))
        (G := fun p => Inv rs.length p ∧ Up (fun i => ckey (rs.getD i (0, 0))) p rs.length) ?_ ?_ _ _ (by rw [hlen]; exact sat_sort (by omega)) ⟨h', s.toks, rfl, F', N'⟩
      · rintro i j hi hj C s' ⟨h'', tk, rfl, F'', N''⟩ hC
        have up : ∀ v r, CidrIn w tl v r → CidrIn w ((D, seqObj "list" #[] e1) :: news) v r := fun v r => CidrIn.mono fun p hp => .tail _ (hs p hp)
        refine cidr_lt hk KX T K0 F'' N'' (up _ _ (hc.getD (d := (0, 0)) hi)) (up _ _ (hc.getD (d := (0, 0)) hj)) (hg _ ?_) (hg _ ?_) fun h3 tk' F3 N3 => hC _ ⟨h3, tk', rfl, F3, N3⟩
        · rw [List.getD_eq_getElem?_getD, List.getElem?_eq_getElem hi]; exact List.getElem_mem hi
        · rw [List.getD_eq_getElem?_getD, List.getElem?_eq_getElem hj]; exact List.getElem_mem hj
      · rintro p s' ⟨hp, hu⟩ ⟨h'', tk, rfl, F'', N''⟩
        obtain ⟨a1, a2⟩ := sorted_row hp hu
        refine KasFin.intro F'' N'' (UpdF.head fun q hq => Nat.ne_of_lt (hlt q hq)) fun h3 c F3 N3 => ?_
        refine hQ D c h3 tk _ _ F3 N3 hlt (hc.pick (d := (0, 0)) p.toList fun i hi => ?_) a1 a2
        exact List.mem_range.mp (hp.mem_iff.mp hi)
end Mine
namespace Mine
section
variable {prog : Program} {w : World} {A : Around} {E : Value → Shared → Prop} {s : Shared} {h₀ : Heap} {L l : Addr} {m : Str → Option Value} {news : List (Addr × Obj)} {vs : List Value} {rs : List RR}
theorem pair_lt {u v : Value} {r q : RR} {Q : Bool → Shared → Prop} (N : News h₀ L s.heap news) (hu : PairIn news u r) (hv : PairIn news v q) (gr : Good r) (gq : Good q) (hQ : Q (decide (tkey r < tkey q)) s) :
    wpAny (model prog w) A (keyLt' (tuples' true) u v) Q E s := by
  obtain ⟨a, t, t', rfl, ha⟩ := hu
  obtain ⟨b, k, k', rfl, hb⟩ := hv
  have r1 := gr.nlo
  have r2 := gr.nhi
  have q1 := gq.nlo
  have q2 := gq.nhi
  refine kat_lt (N.get ha) rfl (N.get hb) rfl ?_
  show KatLex prog w A true _ _ [(Value.int r.1 t, Value.int q.1 k), (Value.int r.2 t', Value.int q.2 k')] 0 s
  refine kat_cons (wpAny_eqBool_int ?_)
  by_cases h : r.1 = q.1
  · rw [show (r.1 == q.1) = true from beq_iff_eq.mpr h]
    refine kat_yes (kat_cons (wpAny_eqBool_int ?_))
    by_cases h' : r.2 = q.2
    · rw [show (r.2 == q.2) = true from beq_iff_eq.mpr h']
      refine kat_yes (kat_nil ?_)
      rw [decide_eq_false (by unfold tkey; omega)] at hQ
      exact hQ
    · rw [show (r.2 == q.2) = false from beq_eq_false_iff_ne.mpr h']
      refine kat_no (kat_one _ _ (lt_int ?_))
      have e : decide (tkey r < tkey q) = decide (r.2 < q.2) := by
        unfold tkey
        by_cases hx : r.2 < q.2
        · rw [decide_eq_true hx, decide_eq_true (by omega)]
        · rw [decide_eq_false hx, decide_eq_false (by omega)]
      rw [e] at hQ
      exact hQ
  · rw [show (r.1 == q.1) = false from beq_eq_false_iff_ne.mpr h]
    refine kat_no ?_
    have e : decide (tkey r < tkey q) = decide (r.1 < q.1) := by
      unfold tkey
      by_cases hx : r.1 < q.1
      · rw [decide_eq_true hx, decide_eq_true (by omega)]
      · rw [decide_eq_false hx, decide_eq_false (by omega)]
    rw [e] at hQ
    exact oneLt_int hQ
theorem pair_firsts (N : News h₀ L s.heap news) : ∀ {vs : List Value} {rs : List RR}, All2 (PairIn news) vs rs → ∃ fs : List Value, KatTups s.heap vs fs ∧ fs.length = vs.length ∧ ∀ v ∈ fs, ∃ i t, v = .int i t
  | [], [], _ => ⟨[], KatTups.nil, rfl, fun _ h => nomatch h⟩
  | _ :: _, r :: _, h => by
    obtain ⟨⟨a, t, t', rfl, ha⟩, hr⟩ := h
    obtain ⟨fs, b1, b2, b3⟩ := pair_firsts N hr
    refine ⟨.int r.1 t :: fs, KatTups.cons (N.get ha) rfl rfl rfl b1, by simp [b2], fun v hv => ?_⟩
    rcases List.mem_cons.mp hv with rfl | hv
    · exact ⟨_, _, rfl⟩
    · exact b3 v hv
  | [], _ :: _, h => h.elim
  | _ :: _, [], h => h.elim
theorem pair_sorted {tl : List (Addr × Obj)} {Q : Value → Shared → Prop} (F : Fr h₀ L s.heap m) (N : News h₀ L s.heap news) (hl : s.heap.IsList l vs.toArray) (hs : ∀ p ∈ tl, p ∈ news) (hc : All2 (PairIn tl) vs rs) (hg : ∀ r ∈ rs, Good r) (h64 : rs.length < 64)
    (hQ : ∀ D c h' tk vs' rs', Fr h₀ L h' m → News h₀ L h' ((D, W.listOf vs'.toArray c) :: news) → (∀ q ∈ news, q.1 < D) → All2 (PairIn tl) vs' rs' → rs'.Perm rs → byKey tkey rs' → Q (.ref D) { s with heap := h', toks := tk }) :
    wpAny (model prog w) A (call (.builtin "sorted") [.ref l]) Q E s := by
  have hlen := hc.length
  by_cases h2 : vs.length < 2
  · refine sorted_one F N hl h2 fun D c h' F' N' hlt => hQ D c h' s.toks vs rs F' N' hlt hc (List.Perm.refl _) ?_
    intro i j hij hj
    have : i = j := by omega
    subst this; exact Int.le_refl _
  · refine kat_sorted F N hl (by omega) (by omega) fun D e1 h' F' N' hlt => ?_
    have Nn : News h₀ L h' news := kst_newsOf N' fun p hp => .tail _ hp
    obtain ⟨fs, b1, b2, b3⟩ := pair_firsts (s := { s with heap := h' }) Nn (hc.mono fun v r => PairIn.mono hs)
    refine kat_kind (T := .type "int") b1 (by omega) (fun v hv => ?_) rfl ?_
    · obtain ⟨i, t, rfl⟩ := b3 v hv
      exact Looks.of_pure rfl
    · show (kas_sort vs.length).kasWp (kas_ask prog w A.in1.in1 (tuples' true) vs) _ _
      refine sat_wp (n := rs.length) (key := fun i => tkey (rs.getD i (0, 0))) (I := fun s' => ∃ h'' tk, s' = { s with heap := h'', toks := tk } ∧ Fr h₀ L h'' m ∧ News h₀ L h'' ((D, seqObj "list" #[] e1) :: news))
        (G := fun p => Inv rs.length p ∧ Up (fun i => tkey (rs.getD i (0, 0))) p rs.length) ?_ ?_ _ _ (by rw [hlen]; exact sat_sort (by omega)) ⟨h', s.toks, rfl, F', N'⟩
      · rintro i j hi hj C s' ⟨h'', tk, rfl, F'', N''⟩ hC
        have up : ∀ v r, PairIn tl v r → PairIn ((D, seqObj "list" #[] e1) :: news) v r := fun v r => PairIn.mono fun p hp => .tail _ (hs p hp)
        refine pair_lt N'' (up _ _ (hc.getD (d := (0, 0)) hi)) (up _ _ (hc.getD (d := (0, 0)) hj)) (hg _ ?_) (hg _ ?_) (hC _ ⟨h'', tk, rfl, F'', N''⟩)
        · rw [List.getD_eq_getElem?_getD, List.getElem?_eq_getElem hi]; exact List.getElem_mem hi
        · rw [List.getD_eq_getElem?_getD, List.getElem?_eq_getElem hj]; exact List.getElem_mem hj
      · rintro p s' ⟨hp, hu⟩ ⟨h'', tk, rfl, F'', N''⟩
        obtain ⟨a1, a2⟩ := sorted_row hp hu
        refine KasFin.intro F'' N'' (UpdF.head fun q hq => Nat.ne_of_lt (hlt q hq)) fun h3 c F3 N3 => ?_
        refine hQ D c h3 tk _ _ F3 N3 hlt (hc.pick (d := (0, 0)) p.toList fun i hi => ?_) a1 a2
        exact List.mem_range.mp (hp.mem_iff.mp hi)

/- two rows of pairs, or two pairs, compared -/
def pairData (r : RR) : PyData := .tuple [.int r.1, .int r.2]
theorem pair_reads {h : Heap} (N : News h₀ L h news) {v : Value} {r : RR} (hv : PairIn news v r) : ∃ as, Reads h v (pairData r) as := by
  obtain ⟨a, t, t', rfl, ha⟩ := hv
  exact ⟨_, reads_tuple_at (N.get ha) rfl rfl (.cons (.int _ _) (.cons (.int _ _) .nil))⟩
end
end Mine
namespace Mine
section
variable {prog : Program} {w : World} {A : Around} {E : Value → Shared → Prop} {s : Shared} {h₀ : Heap} {L l : Addr} {m : Str → Option Value} {news : List (Addr × Obj)} {vs us : List Value} {rs : List RR}
theorem pairs_read {h : Heap} (N : News h₀ L h news) : ∀ {vs : List Value} {rs : List RR}, All2 (PairIn news) vs rs → ∃ as, ReadsAll h vs (rs.map pairData) as
  | [], [], _ => ⟨_, .nil⟩
  | _ :: _, _ :: _, hh => by
    obtain ⟨as, h1⟩ := pair_reads N hh.1
    obtain ⟨bs, h2⟩ := pairs_read N hh.2
    exact ⟨_, .cons h1 h2⟩
  | [], _ :: _, hh => hh.elim
  | _ :: _, [], hh => hh.elim
theorem pairs_shaped (rs : List RR) : SeqAt.shaped (.list (rs.map pairData)) = true := by
  have h1 : ∀ rs : List RR, PyData.canLayAll0 (rs.map pairData) = true := by
    intro rs
    induction rs with
    | nil => rfl
    | cons r rs ih => simp [PyData.canLayAll0, PyData.canLay0, pairData, ih]
  have h2 : ∀ rs : List RR, PyData.depthAll (rs.map pairData) ≤ 1 := by
    intro rs
    induction rs with
    | nil => simp [PyData.depthAll]
    | cons r rs ih => simp [PyData.depthAll, PyData.depth, pairData]; omega
  have h3 := h2 rs
  simp [SeqAt.shaped, PyData.canLay0, PyData.depth, h1]
  omega
theorem pairs_eqv : ∀ rs : List RR, PyData.eqvAll (rs.map pairData) (rs.map pairData) = true
  | [] => rfl
  | r :: rs => by simp [PyData.eqvAll, PyData.eqv, pairData, pairs_eqv rs]
theorem ne_pairs {x y : Addr} {Q : Value → Shared → Prop} (N : News h₀ L s.heap news) (hx : s.heap.IsList x vs.toArray) (hy : s.heap.IsList y us.toArray) (h1 : All2 (PairIn news) vs rs) (h2 : All2 (PairIn news) us rs) (hu : A.units + 64 < cLine)
    (h : Q (.bool false) s) : wpAny (model prog w) A (compareOp .NotEq (.ref x) (.ref y)) Q E s := by
  obtain ⟨as, a1⟩ := pairs_read N h1
  obtain ⟨bs, a2⟩ := pairs_read N h2
  obtain ⟨ox, b1, b2, n1, b3⟩ := hx
  obtain ⟨oy, c1, c2, n2, c3⟩ := hy
  refine ne_dataH (reads_list_at b1 b2 b3 a1) (reads_list_at c1 c2 c3 a2) (pairs_shaped rs) (pairs_shaped rs) hu ?_
  show Q (.bool (!PyData.eqvAll (rs.map pairData) (rs.map pairData))) s
  rw [pairs_eqv]
  exact h
theorem ne_pair {u v : Value} {r q : RR} {Q : Value → Shared → Prop} (N : News h₀ L s.heap news) (hr : PairIn news u r) (hq : PairIn news v q) (hu : A.units + 64 < cLine)
    (h : Q (.bool (!decide (r = q))) s) : wpAny (model prog w) A (compareOp .NotEq u v) Q E s := by
  obtain ⟨as, a1⟩ := pair_reads N hr
  obtain ⟨bs, a2⟩ := pair_reads N hq
  refine ne_dataH a1 a2 (by simp [SeqAt.shaped, PyData.canLay0, PyData.canLayAll0, PyData.depth, PyData.depthAll, pairData]) (by simp [SeqAt.shaped, PyData.canLay0, PyData.canLayAll0, PyData.depth, PyData.depthAll, pairData]) hu ?_
  have e : PyData.eqv (pairData r) (pairData q) = decide (r = q) := by
    obtain ⟨r1, r2⟩ := r
    obtain ⟨q1, q2⟩ := q
    simp only [PyData.eqv, PyData.eqvAll, pairData, Prod.mk.injEq, Bool.and_true]
    by_cases x : r1 = q1 <;> by_cases y : r2 = q2 <;> simp [x, y]
  rw [e]
  exact h
end
end Mine
namespace Mine
/- the parts of the law's text, by projection -/
def defBody : Stmt → List Stmt
  | .FunctionDef _ _ b _ _ _ _ _ _ _ => b
  | _ => []
def defScope : Stmt → Scope
  | .FunctionDef _ _ _ _ _ _ s _ _ _ => s
  | _ => { kind := .function, names := [], isGenerator := false, isCoroutine := false, more := [] }
def forBody : Stmt → List Stmt
  | .For _ _ b _ _ => b
  | _ => []
def sixth : List Stmt → Stmt
  | [_, _, _, _, _, d] => d
  | _ => .Pass default
def lawDef : Stmt := sixth PySem.Challenge.pw_br0003_01.main.body
def from5 : List Stmt → List Stmt
  | _ :: _ :: _ :: _ :: _ :: r => r
  | _ => []
def hd1 : List Stmt → Stmt
  | a :: _ => a
  | _ => .Pass default
def tl1 : List Stmt → List Stmt
  | _ :: r => r
  | _ => []
def body5 : List Stmt := from5 (defBody lawDef)
def lawS : Scope := defScope lawDef
abbrev lawEnv (L fa : Addr) (cdv : Value) : Env := envOfC (Str.ofString "law") lawS L fa cdv
theorem fr_look {h₀ h : Heap} {L : Addr} {m : Str → Option Value} {x : Str} {v : Value} (F : Fr h₀ L h m) (e : m x = some v) : Fr h₀ L h (fun y => if y = x then some v else m y) := by
  have : (fun y => if y = x then some v else m y) = m := by
    funext y
    by_cases hy : y = x
    · rw [if_pos hy, hy, e]
    · rw [if_neg hy]
  rw [this]
  exact F
end Mine
namespace Mine
theorem num_nat (b s c d : Nat) (hs : s ≤ 5) (hb : b < 28) (hc : c < 2 ^ b) (hd : d < 2 ^ s) : (c * 2 ^ s + d) * 2 ^ (32 - b - s) < 4294967296 := by
  have h1 : c * 2 ^ s + d < 2 ^ b * 2 ^ s := by
    have h2 : (c + 1) * 2 ^ s ≤ 2 ^ b * 2 ^ s := Nat.mul_le_mul_right _ hc
    rw [Nat.add_mul, Nat.one_mul] at h2
    omega
  have h3 : (c * 2 ^ s + d) * 2 ^ (32 - b - s) < 2 ^ b * 2 ^ s * 2 ^ (32 - b - s) := Nat.mul_lt_mul_of_pos_right h1 (Nat.two_pow_pos _)
  have h4 : 2 ^ b * 2 ^ s * 2 ^ (32 - b - s) = 2 ^ 32 := by
    rw [← Nat.pow_add, ← Nat.pow_add]
    congr 1
    omega
  rw [h4] at h3
  exact h3
theorem two_pow_cast (k : Nat) : ((2 : Int) ^ k) = ((2 ^ k : Nat) : Int) := by rw [Int.natCast_pow]; rfl
abbrev numT (base common n : Int) : Int := (common * 2 ^ (n.fmod 6).toNat + ((n.fdiv 6).fmod 32).fdiv (2 ^ (5 - n.fmod 6).toNat)) * 2 ^ (32 - base - n.fmod 6).toNat
structure NumFacts (base common n : Int) : Prop where
  m1 : IntMulOk common (2 ^ (n.fmod 6).toNat)
  m2 : IntMulOk (common * 2 ^ (n.fmod 6).toNat + ((n.fdiv 6).fmod 32).fdiv (2 ^ (5 - n.fmod 6).toNat)) (2 ^ (32 - base - n.fmod 6).toNat)
  lo : 0 ≤ numT base common n
  hi : numT base common n < 4294967296
  good : Good (base + n.fmod 6, numT base common n)
theorem num_core {base common sz e : Int} (b0 : 0 ≤ base) (b1 : base < 28) (c0 : 0 ≤ common) (c1 : common < 2 ^ base.toNat) (s0 : 0 ≤ sz) (s1 : sz < 6) (e0 : 0 ≤ e) (e1 : e < 32) :
    IntMulOk common (2 ^ sz.toNat) ∧ IntMulOk (common * 2 ^ sz.toNat + e.fdiv (2 ^ (5 - sz).toNat)) (2 ^ (32 - base - sz).toNat) ∧
    0 ≤ (common * 2 ^ sz.toNat + e.fdiv (2 ^ (5 - sz).toNat)) * 2 ^ (32 - base - sz).toNat ∧ (common * 2 ^ sz.toNat + e.fdiv (2 ^ (5 - sz).toNat)) * 2 ^ (32 - base - sz).toNat < 4294967296 := by
  obtain ⟨s, rfl⟩ := Int.eq_ofNat_of_zero_le s0
  obtain ⟨b, rfl⟩ := Int.eq_ofNat_of_zero_le b0
  obtain ⟨c, rfl⟩ := Int.eq_ofNat_of_zero_le c0
  obtain ⟨d, rfl⟩ := Int.eq_ofNat_of_zero_le e0
  have hs : s ≤ 5 := by omega
  have hb : b < 28 := by omega
  have hd : d < 32 := by omega
  have x1 : ((s : Nat) : Int).toNat = s := Int.toNat_natCast s
  have x2 : ((5 : Int) - ((s : Nat) : Int)).toNat = 5 - s := by omega
  have x3 : ((32 : Int) - ((b : Nat) : Int) - ((s : Nat) : Int)).toNat = 32 - b - s := by omega
  have x4 : ((b : Nat) : Int).toNat = b := Int.toNat_natCast b
  rw [x4, two_pow_cast] at c1
  have hc : c < 2 ^ b := Int.ofNat_lt.mp c1
  have hq : ((d : Nat) : Int).fdiv (2 ^ (5 - s)) = ((d / 2 ^ (5 - s) : Nat) : Int) := by
    rw [two_pow_cast, Int.fdiv_eq_ediv_of_nonneg _ (Int.natCast_nonneg _)]
    exact (Int.natCast_ediv _ _).symm
  have hq2 : d / 2 ^ (5 - s) < 2 ^ s := by
    refine Nat.div_lt_of_lt_mul ?_
    rw [← Nat.pow_add, show 5 - s + s = 5 by omega]
    exact hd
  have hX : ((c : Nat) : Int) * 2 ^ s + ((d : Nat) : Int).fdiv (2 ^ (5 - s)) = ((c * 2 ^ s + d / 2 ^ (5 - s) : Nat) : Int) := by
    rw [hq, two_pow_cast, Int.natCast_add, Int.natCast_mul]
  have hN : (((c : Nat) : Int) * 2 ^ s + ((d : Nat) : Int).fdiv (2 ^ (5 - s))) * 2 ^ (32 - b - s) = (((c * 2 ^ s + d / 2 ^ (5 - s)) * 2 ^ (32 - b - s) : Nat) : Int) := by
    rw [hX, two_pow_cast, Int.natCast_mul]
  have hlt := num_nat b s c (d / 2 ^ (5 - s)) hs hb hc hq2
  have hp : ∀ k : Nat, k ≤ 32 → (2 : Int) ^ k ≤ 4294967296 ∧ 0 < (2 : Int) ^ k := by
    intro k hk
    have h1 : 2 ^ k ≤ 2 ^ 32 := Nat.pow_le_pow_right (by decide) hk
    have h2 : 0 < 2 ^ k := Nat.two_pow_pos k
    rw [two_pow_cast]
    omega
  rw [x1, x2, x3]
  refine ⟨IntMulOk.of_right (PySem.intBits_le_64 ?_ ?_), IntMulOk.of_right (PySem.intBits_le_64 ?_ ?_), ?_, ?_⟩
  · have := hp s (by omega); omega
  · have := hp s (by omega); omega
  · have := hp (32 - b - s) (by omega); omega
  · have := hp (32 - b - s) (by omega); omega
  · rw [hN]; exact Int.natCast_nonneg _
  · rw [hN]; exact Int.ofNat_lt.mpr hlt
theorem num_facts {base common : Int} (n : Int) (b0 : 0 ≤ base) (b1 : base < 28) (c0 : 0 ≤ common) (c1 : common < 2 ^ base.toNat) : NumFacts base common n := by
  have s0 := fmod_lo n (n := 6) (by decide)
  have s1 := fmod_hi n (n := 6) (by decide)
  obtain ⟨h1, h2, h3, h4⟩ := num_core b0 b1 c0 c1 s0 s1 (fmod_lo (n.fdiv 6) (n := 32) (by decide)) (fmod_hi (n.fdiv 6) (n := 32) (by decide))
  refine ⟨h1, h2, h3, h4, ⟨?_, ?_, h3, h4, ⟨common * 2 ^ (n.fmod 6).toNat + ((n.fdiv 6).fmod 32).fdiv (2 ^ (5 - n.fmod 6).toNat), ?_⟩⟩⟩
  · show (0 : Int) ≤ base + n.fmod 6; omega
  · show base + n.fmod 6 ≤ 32; omega
  · show _ = _ * (2 : Int) ^ ((32 : Int) - (base + n.fmod 6)).toNat
    rw [show ((32 : Int) - (base + n.fmod 6)).toNat = (32 - base - n.fmod 6).toNat by omega]
end Mine
namespace Mine
local macro_rules | `(tactic| walk_at "binaryOp Mult int int") => `(tactic| ((with_reducible refine mul_int ?_ ?z); (case z => first | exact NumFacts.m1 (by with_reducible assumption) | exact NumFacts.m2 (by with_reducible assumption))))
theorem len_named {prog : Program} {w : World} {A : Around} {E : Value → Shared → Prop} {s : Shared} {h₀ : Heap} {L D : Addr} {news : List (Addr × Obj)} {vs : List Value} {c k : Nat} {Q : Value → Shared → Prop} (N : News h₀ L s.heap news) (hm : (D, W.listOf vs.toArray c) ∈ news) (hz : vs.length = k) (hf : k < 4611686018427387904)
    (h : Q (.int (k : Nat) (s.toks + 1)) { s with toks := s.toks + 1 + 1 }) : wpAny (model prog w) A (call (.builtin "len") [.ref D]) Q E s :=
  KM.len_K N hm (List.size_toArray.trans hz) hf h
local macro_rules | `(tactic| walk_at "call builtin:len") => `(tactic| (k_here; (with_reducible show wpAny _ _ (call (Value.builtin _) [Value.ref _]) _ _ _); k_dflt (refine len_named (by k_asm) (by k_mem) (by with_reducible assumption) ?z ?_; (case z => omega))))
local macro_rules | `(tactic| size_fits) => `(tactic| (simp only [List.size_toArray, PySem.sizeLine_eq]; omega))
local macro_rules | `(tactic| walk_at "call builtin:int.to_bytes") => `(tactic| (k_here; (with_unfolding_all refine KTBy.to_big (k := 4) (B := 4294967296) (by decide) (by decide) (NumFacts.lo (by with_reducible assumption)) (NumFacts.hi (by with_reducible assumption)) ?_); (intro _ _ _ ktbIn ktbLen)))
local macro_rules | `(tactic| walk_at "binaryOp Pow int int") => `(tactic| ((with_reducible refine pow_int_small ?kb1 ?kb2 ?kb3 ?_); (case kb1 => omega); (case kb2 => omega); (case kb3 => decide)))
def body1 : List Stmt := forBody (hd1 body5)

def J1 (w : World) (L lr lf D a1 a2 a3 : Addr) (o1 o2 o3 : Obj) (ws : List Value) (base common : Int) (tb tc : Tok) (i : Nat) (m : Str → Option Value) (nx : List (Addr × Obj)) : Prop :=
  ∃ vsR vsF cR cF rs tl, nx = (lf, W.listOf vsF.toArray cF) :: (lr, W.listOf vsR.toArray cR) :: (D, W.listOf ws.toArray 0) :: (a1, o1) :: (a2, o2) :: (a3, o3) :: tl ∧ OwnOff tl [lf, lr, D, a1, a2, a3] ∧
    All2 (PairIn tl) vsR rs ∧ All2 (CidrIn w tl) vsF rs ∧ (∀ r ∈ rs, Good r) ∧ rs.length ≤ i ∧ (0 < i → 0 < rs.length) ∧
    m (Str.ofString "rows") = some (.ref lr) ∧ m (Str.ofString "first") = some (.ref lf) ∧ m (Str.ofString "common") = some (.int common tc) ∧ m (Str.ofString "base") = some (.int base tb)


theorem allLt_mem {d : Addr} {l : List (Addr × Obj)} (h : AllLt d l) : ∀ p ∈ l, @LT.lt Nat _ p.1 d := by
  induction l with
  | nil => intro p hp; exact nomatch hp
  | cons a l ih =>
    intro p hp
    have h1 : @LT.lt Nat _ a.1 d ∧ AllLt d l := h
    rcases List.mem_cons.mp hp with e | hp
    · rw [e]; exact h1.1
    · exact ih h1.2 p hp
theorem sub_cons {α : Type} {a : α} {l l' : List α} (h : ∀ p ∈ l, p ∈ l') : ∀ p ∈ a :: l, p ∈ a :: l' := fun p hp => (List.mem_cons.mp hp).elim (fun e => e ▸ .head _) fun hp => .tail _ (h p hp)
theorem sub_app {α : Type} {l l' : List α} : ∀ p ∈ l, p ∈ l ++ l' := fun _ hp => List.mem_append_left _ hp
theorem in_of {α : Type} {a b : α} {l : List α} (h : a = b) (k : b ∈ l) : a ∈ l := h ▸ k
theorem ownOff_sub {l l' : List (Addr × Obj)} {adr : List Addr} (h : OwnOff l adr) (hs : ∀ p ∈ l', p ∈ l) : OwnOff l' adr := fun p hp => h p (hs p hp)
theorem big4_little (x : Int) : (KTBy.little 4 x).reverse = big4 x := by simp only [KTBy.little, big4, List.reverse_cons, List.reverse_nil, List.nil_append, List.cons_append]

section
variable {w : World} {h₀ h' : Heap} {L lr lf D a1 a2 a3 : Addr} {o1 o2 o3 : Obj} {ws vsR vsF : List Value} {base common : Int} {tb tc : Tok} {i cR cF : Nat} {m' : Str → Option Value} {tl own : List (Addr × Obj)} {rs : List RR} {s : Shared} {tk : Nat}
theorem end1A (F : Fr h₀ L h' m') (N : News h₀ L h' ((lf, W.listOf vsF.toArray cF) :: (lr, W.listOf vsR.toArray cR) :: (D, W.listOf ws.toArray 0) :: (a1, o1) :: (a2, o2) :: (a3, o3) :: (tl ++ own)))
    (hOff : OwnOff (tl ++ own) [lf, lr, D, a1, a2, a3]) (hoo : OwnOff own (tl.map (·.1))) (hR : All2 (PairIn tl) vsR rs) (hF : All2 (CidrIn w tl) vsF rs) (hG : ∀ r ∈ rs, Good r) (hi : rs.length ≤ i) (hpos : 0 < rs.length)
    (m1 : m' (Str.ofString "rows") = some (.ref lr)) (m2 : m' (Str.ofString "first") = some (.ref lf)) (m3 : m' (Str.ofString "common") = some (.int common tc)) (m4 : m' (Str.ofString "base") = some (.int base tb)) :
    InvEndG h₀ L (fun m' nx => (D, W.listOf ws.toArray 0) ∈ nx ∧ J1 w L lr lf D a1 a2 a3 o1 o2 o3 ws base common tb tc (i + 1) m' nx) own s { s with heap := h', toks := tk } := by
  refine InvEndG.intro F N (nx := (lf, W.listOf vsF.toArray cF) :: (lr, W.listOf vsR.toArray cR) :: (D, W.listOf ws.toArray 0) :: (a1, o1) :: (a2, o2) :: (a3, o3) :: tl)
    ⟨.tail _ (.tail _ (.head _)), vsR, vsF, cR, cF, rs, tl, rfl, ownOff_sub hOff fun p hp => List.mem_append_left _ hp, hR, hF, hG, by omega, fun _ => hpos, m1, m2, m3, m4⟩ ?_ ?_ ?_
  · intro p hp b hb
    simp only [List.map_cons, List.mem_cons] at hb
    have hp' : p ∈ tl ++ own := List.mem_append_right _ hp
    rcases hb with rfl | rfl | rfl | rfl | rfl | rfl | hb
    · exact hOff p hp' _ (by simp)
    · exact hOff p hp' _ (by simp)
    · exact hOff p hp' _ (by simp)
    · exact hOff p hp' _ (by simp)
    · exact hOff p hp' _ (by simp)
    · exact hOff p hp' _ (by simp)
    · exact hoo p hp _ hb
  · exact sub_cons (sub_cons (sub_cons (sub_cons (sub_cons (sub_cons sub_app)))))
  · exact fun p hp => .tail _ (.tail _ (.tail _ (.tail _ (.tail _ (.tail _ (List.mem_append_right _ hp))))))

theorem end1B {x d P : Addr} {b : Array UInt8} {mask num : Int} {t1 t2 t3 t4 t5 u1 u2 : Tok} (F : Fr h₀ L h' m')
    (N : News h₀ L h' ((x, instObj 146 d) :: (d, cdict w b mask t1 t2 t3 t4 t5) :: (P, pairObj (.int mask u1) (.int num u2)) :: (lf, W.listOf (vsF.toArray.push (Value.ref x)) (cF + 1)) :: (lr, W.listOf (vsR.toArray.push (Value.ref P)) (cR + 1)) :: (D, W.listOf ws.toArray 0) :: (a1, o1) :: (a2, o2) :: (a3, o3) :: (tl ++ own)))
    (hb : KBw.bInts b = (KTBy.little 4 num).reverse) (hg : Good (mask, num))
    (l1 : @LT.lt Nat _ lf P ∧ @LT.lt Nat _ lr P ∧ @LT.lt Nat _ D P ∧ @LT.lt Nat _ a1 P ∧ @LT.lt Nat _ a2 P ∧ @LT.lt Nat _ a3 P ∧ AllLt P (tl ++ own))
    (l2 : @LT.lt Nat _ P d ∧ @LT.lt Nat _ lf d ∧ @LT.lt Nat _ lr d ∧ @LT.lt Nat _ D d ∧ @LT.lt Nat _ a1 d ∧ @LT.lt Nat _ a2 d ∧ @LT.lt Nat _ a3 d ∧ AllLt d (tl ++ own)) (l3 : @LT.lt Nat _ d x)
    (hOff : OwnOff (tl ++ own) [lf, lr, D, a1, a2, a3]) (hoo : OwnOff own (tl.map (·.1))) (hR : All2 (PairIn tl) vsR rs) (hF : All2 (CidrIn w tl) vsF rs) (hG : ∀ r ∈ rs, Good r) (hi : rs.length ≤ i)
    (m1 : m' (Str.ofString "rows") = some (.ref lr)) (m2 : m' (Str.ofString "first") = some (.ref lf)) (m3 : m' (Str.ofString "common") = some (.int common tc)) (m4 : m' (Str.ofString "base") = some (.int base tb)) :
    InvEndG h₀ L (fun m' nx => (D, W.listOf ws.toArray 0) ∈ nx ∧ J1 w L lr lf D a1 a2 a3 o1 o2 o3 ws base common tb tc (i + 1) m' nx) own s { s with heap := h', toks := tk } := by
  rw [List.push_toArray, List.push_toArray] at N
  have oP := allLt_mem l1.2.2.2.2.2.2
  have od := allLt_mem l2.2.2.2.2.2.2.2
  refine InvEndG.intro F N (nx := (lf, W.listOf (vsF ++ [Value.ref x]).toArray (cF + 1)) :: (lr, W.listOf (vsR ++ [Value.ref P]).toArray (cR + 1)) :: (D, W.listOf ws.toArray 0) :: (a1, o1) :: (a2, o2) :: (a3, o3) :: ((x, instObj 146 d) :: (d, cdict w b mask t1 t2 t3 t4 t5) :: (P, pairObj (.int mask u1) (.int num u2)) :: tl))
    ⟨.tail _ (.tail _ (.head _)), vsR ++ [Value.ref P], vsF ++ [Value.ref x], cR + 1, cF + 1, rs ++ [(mask, num)], _, rfl, ?_, ?_, ?_, ?_, by simp; omega, fun _ => by simp, m1, m2, m3, m4⟩ ?_ ?_ ?_
  · intro p hp c hc
    simp only [List.mem_cons, List.not_mem_nil, or_false] at hp hc
    rcases hp with rfl | rfl | rfl | hp
    · rcases hc with rfl | rfl | rfl | rfl | rfl | rfl <;> (refine neN ?_; dsimp only; omega)
    · rcases hc with rfl | rfl | rfl | rfl | rfl | rfl <;> (refine neN ?_; dsimp only; omega)
    · rcases hc with rfl | rfl | rfl | rfl | rfl | rfl <;> (refine neN ?_; dsimp only; omega)
    · exact hOff p (List.mem_append_left _ hp) c (by simpa using hc)
  · exact (hR.mono fun v r => PairIn.mono fun p hp => .tail _ (.tail _ (.tail _ hp))).snoc ⟨P, u1, u2, rfl, .tail _ (.tail _ (.head _))⟩
  · exact (hF.mono fun v r => CidrIn.mono fun p hp => .tail _ (.tail _ (.tail _ hp))).snoc ⟨x, d, b, t1, t2, t3, t4, t5, rfl, .head _, .tail _ (.head _), hb.trans (big4_little _)⟩
  · intro r hr
    rcases List.mem_append.mp hr with hr | hr
    · exact hG r hr
    · rw [List.mem_singleton.mp hr]; exact hg
  · intro p hp c hc
    simp only [List.map_cons, List.mem_cons] at hc
    have hp' : p ∈ tl ++ own := List.mem_append_right _ hp
    have q1 := oP p hp'
    have q2 := od p hp'
    rcases hc with rfl | rfl | rfl | rfl | rfl | rfl | rfl | rfl | rfl | hc
    · exact hOff p hp' _ (by simp)
    · exact hOff p hp' _ (by simp)
    · exact hOff p hp' _ (by simp)
    · exact hOff p hp' _ (by simp)
    · exact hOff p hp' _ (by simp)
    · exact hOff p hp' _ (by simp)
    · refine neN ?_; omega
    · refine neN ?_; omega
    · refine neN ?_; omega
    · exact hoo p hp _ hc
  · intro p hp
    rcases List.mem_cons.mp hp with e | hp
    · exact in_of e (.tail _ (.tail _ (.tail _ (.head _))))
    rcases List.mem_cons.mp hp with e | hp
    · exact in_of e (.tail _ (.tail _ (.tail _ (.tail _ (.head _)))))
    rcases List.mem_cons.mp hp with e | hp
    · exact in_of e (.tail _ (.tail _ (.tail _ (.tail _ (.tail _ (.head _))))))
    rcases List.mem_cons.mp hp with e | hp
    · exact in_of e (.tail _ (.tail _ (.tail _ (.tail _ (.tail _ (.tail _ (.head _)))))))
    rcases List.mem_cons.mp hp with e | hp
    · exact in_of e (.tail _ (.tail _ (.tail _ (.tail _ (.tail _ (.tail _ (.tail _ (.head _))))))))
    rcases List.mem_cons.mp hp with e | hp
    · exact in_of e (.tail _ (.tail _ (.tail _ (.tail _ (.tail _ (.tail _ (.tail _ (.tail _ (.head _)))))))))
    rcases List.mem_cons.mp hp with e | hp
    · exact in_of e (.head _)
    rcases List.mem_cons.mp hp with e | hp
    · exact in_of e (.tail _ (.head _))
    rcases List.mem_cons.mp hp with e | hp
    · exact in_of e (.tail _ (.tail _ (.head _)))
    exact .tail _ (.tail _ (.tail _ (.tail _ (.tail _ (.tail _ (.tail _ (.tail _ (.tail _ (List.mem_append_left _ hp)))))))))
  · exact fun p hp => .tail _ (.tail _ (.tail _ (.tail _ (.tail _ (.tail _ (.tail _ (.tail _ (.tail _ (List.mem_append_right _ hp)))))))))
end

theorem turn1 {w : World} {s₀ : Shared} {mg mb : Str → Option Value} {h₀ : Heap} {L fa : Addr} {cdv : Value} {m₁ : Str → Option Value} {own tl : List (Addr × Obj)} {s : Shared} {Q : Flow → Shared → Prop} {E : Value → Shared → Prop}
    {lr lf D a1 a2 a3 : Addr} {o1 o2 o3 : Obj} {ws vsR vsF : List Value} {cR cF i : Nat} {rs : List RR} {base common n : Int} {tb tc t : Tok} :
    (PySem.Challenge.rw_br0003_01.Holds → True) → (hd.heap_39 w.params).In h₀ → TopL s₀ mg mb h₀ → Below callerA h₀ [] h₀ →
    (@LT.lt Nat _ a1 lr ∧ @LT.lt Nat _ a2 lr ∧ @LT.lt Nat _ a3 lr ∧ @LT.lt Nat _ lr lf ∧ @LT.lt Nat _ lf D) → OwnOff (tl ++ own) [lf, lr, D, a1, a2, a3] → OwnOff own (tl.map (·.1)) →
    All2 (PairIn tl) vsR rs → All2 (CidrIn w tl) vsF rs → (∀ r ∈ rs, Good r) → rs.length ≤ i → i < 14 → (0 < i → 0 < rs.length) → vsR.length = rs.length → vsF.length = rs.length → 0 ≤ base → base < 28 → 0 ≤ common → common < 2 ^ base.toNat → 0 ≤ n →
    Fr h₀ L s.heap (fun y => if y = Str.ofString "rows" then some (.ref lr) else if y = Str.ofString "first" then some (.ref lf) else if y = Str.ofString "common" then some (.int common tc) else if y = Str.ofString "base" then some (.int base tb) else if y = Str.ofString "draw" then some (.int n t) else m₁ y) →
    News h₀ L s.heap ((lf, W.listOf vsF.toArray cF) :: (lr, W.listOf vsR.toArray cR) :: (D, W.listOf ws.toArray 0) :: (a1, o1) :: (a2, o2) :: (a3, o3) :: (tl ++ own)) →
    wpAny (model PG w) (callerA.deeper (lawEnv L fa cdv)) (execs body1 (lawEnv L fa cdv)) (InvPostG h₀ L (fun m' nx => (D, W.listOf ws.toArray 0) ∈ nx ∧ J1 w L lr lf D a1 a2 a3 o1 o2 o3 ws base common tb tc (i + 1) m' nx) own s Q) E s := by
  w_top off
  k_fill
  intro hk KX T K0 e1 hOff hoo hR hF hG hi hi14 hpos zR zF b0 b1 c0 c1 n0 F N
  dsimp only [body1, forBody, hd1, body5, lawDef, from5, sixth, defBody, PySem.Challenge.pw_br0003_01, lawEnv, lawS, defScope] at *
  have nf := num_facts n b0 b1 c0 c1
  clear c0 c1
  repeat' (first | (k_unfold; (try dsimp only)) | (k_end; wrow_close) | (dsimp only; walk1) | walk1 | (leave1; walk_say "STEP leave1"; try dsimp only) | fail "no step")
  all_goals first
    | exact end1B (by assumption) (by assumption) (by assumption) nf.good (by assumption) (by assumption) (by assumption) hOff hoo hR hF hG hi (by with_unfolding_all rfl) (by with_unfolding_all rfl) (by with_unfolding_all rfl) (by with_unfolding_all rfl)
    | exact end1A (by assumption) (by assumption) hOff hoo hR hF hG hi (by omega) (by with_unfolding_all rfl) (by with_unfolding_all rfl) (by with_unfolding_all rfl) (by with_unfolding_all rfl)
end Mine
namespace Mine
theorem loop1 {w : World} {s₀ : Shared} {mg mb : Str → Option Value} {h₀ : Heap} {L fa : Addr} {cdv : Value} {m : Str → Option Value} {news : List (Addr × Obj)} {s : Shared} {Q : Flow → Shared → Prop} {E : Value → Shared → Prop}
    {lr lf D a1 a2 a3 : Addr} {o1 o2 o3 : Obj} {ws : List Value} {ns : List Int} {base common : Int} {tb tc : Tok}
    (hk : PySem.Challenge.rw_br0003_01.Holds → True) (KX : (hd.heap_39 w.params).In h₀) (T : TopL s₀ mg mb h₀) (K0 : Below callerA h₀ [] h₀)
    (e1 : @LT.lt Nat _ a1 lr ∧ @LT.lt Nat _ a2 lr ∧ @LT.lt Nat _ a3 lr ∧ @LT.lt Nat _ lr lf ∧ @LT.lt Nat _ lf D)
    (F : Fr h₀ L s.heap m) (N : News h₀ L s.heap news)
    (k1 : (lf, W.listOf #[] 0) ∈ news) (k2 : (lr, W.listOf #[] 0) ∈ news) (k3 : (D, W.listOf ws.toArray 0) ∈ news) (k4 : (a1, o1) ∈ news) (k5 : (a2, o2) ∈ news) (k6 : (a3, o3) ∈ news)
    (hi : IntsAre ws ns) (hn : ns.length = 14) (h0 : ∀ n ∈ ns, 0 ≤ n) (b0 : 0 ≤ base) (b1 : base < 28) (c0 : 0 ≤ common) (c1 : common < 2 ^ base.toNat)
    (m1 : m (Str.ofString "rows") = some (.ref lr)) (m2 : m (Str.ofString "first") = some (.ref lf)) (m3 : m (Str.ofString "common") = some (.int common tc)) (m4 : m (Str.ofString "base") = some (.int base tb))
    (hQ : ∀ h' tk m' vsR vsF cR cF rs tl, Fr h₀ L h' m' → News h₀ L h' ((lf, W.listOf vsF.toArray cF) :: (lr, W.listOf vsR.toArray cR) :: (a1, o1) :: (a2, o2) :: (a3, o3) :: tl) → OwnOff tl [lf, lr, a1, a2, a3] →
      All2 (PairIn tl) vsR rs → All2 (CidrIn w tl) vsF rs → (∀ r ∈ rs, Good r) → rs.length ≤ 14 → 0 < rs.length → m' (Str.ofString "rows") = some (.ref lr) → m' (Str.ofString "first") = some (.ref lf) → Q .next { s with heap := h', toks := tk }) :
    wpAny (model PG w) (callerA.deeper (lawEnv L fa cdv)) (pyIter (.ref D)) (fun it s₂ => LoopAtV PG w (callerA.deeper (lawEnv L fa cdv)) h₀ (lawEnv L fa cdv) (Str.ofString "draw") body1 Q E it s₂) E s := by
  have hz : ws.length = 14 := hi.length.trans hn
  refine kdl_iter (news := (lf, W.listOf [].toArray 0) :: (lr, W.listOf [].toArray 0) :: (D, W.listOf ws.toArray 0) :: (a1, o1) :: (a2, o2) :: (a3, o3) :: []) (fun i m nx => J1 w L lr lf D a1 a2 a3 o1 o2 o3 ws base common tb tc i m nx) rfl (.tail _ (.tail _ (.head _))) F ?_ ?_ ?_ ?_
  · intro p hp
    rcases List.mem_cons.mp hp with e | hp
    · exact N p (in_of e k1)
    rcases List.mem_cons.mp hp with e | hp
    · exact N p (in_of e k2)
    rcases List.mem_cons.mp hp with e | hp
    · exact N p (in_of e k3)
    rcases List.mem_cons.mp hp with e | hp
    · exact N p (in_of e k4)
    rcases List.mem_cons.mp hp with e | hp
    · exact N p (in_of e k5)
    rcases List.mem_cons.mp hp with e | hp
    · exact N p (in_of e k6)
    exact nomatch hp
  · exact ⟨[], [], 0, 0, [], [], rfl, (fun _ hp => (nomatch hp)), trivial, trivial, (fun _ hr => (nomatch hr)), Nat.le_refl _, fun h => absurd h (Nat.lt_irrefl _), m1, m2, m3, m4⟩
  · rintro i v m₁ news₁ h tk own hv hoff _ ⟨vsR, vsF, cR, cF, rs, tl, rfl, hot, hR, hF, hG, hlen, hpos, q1, q2, q3, q4⟩ F₁ N₁
    have hi14 : i < 14 := by rw [← hz]; exact (List.getElem?_eq_some_iff.mp hv).1
    have hin : i < ns.length := by omega
    obtain ⟨t, hx⟩ := hi.get i (ns[i]'hin) (List.getElem?_eq_getElem hin)
    have ev : v = .int (ns[i]'hin) t := by rw [hx] at hv; exact (Option.some.inj hv).symm
    subst ev
    have sep : OwnOff (tl ++ own) [lf, lr, D, a1, a2, a3] := by
      intro p hp b hb
      rcases List.mem_append.mp hp with hp | hp
      · exact hot p hp b hb
      · refine hoff p hp b ?_
        simp only [List.map_cons, List.mem_cons, List.not_mem_nil, or_false] at hb ⊢
        rcases hb with h | h | h | h | h | h <;> simp [h]
    have sep2 : OwnOff own (tl.map (·.1)) := by
      intro p hp b hb
      refine hoff p hp b ?_
      simp only [List.map_cons, List.mem_cons]
      exact .inr (.inr (.inr (.inr (.inr (.inr hb)))))
    have hne : ∀ x : Str, x ≠ Str.ofString "draw" → ∀ v, m₁ x = some v → (fun y => if y = Str.ofString "draw" then some (Value.int (ns[i]'hin) t) else m₁ y) x = some v := by
      intro x hx v hv
      show (if x = Str.ofString "draw" then _ else _) = _
      rw [if_neg hx]; exact hv
    have G1 := fr_look F₁ (x := Str.ofString "draw") (v := .int (ns[i]'hin) t) (if_pos rfl)
    have G2 := fr_look G1 (x := Str.ofString "base") (v := .int base tb) (by rw [if_neg (by decide)]; exact hne _ (by decide) _ q4)
    have G3 := fr_look G2 (x := Str.ofString "common") (v := .int common tc) (by rw [if_neg (by decide), if_neg (by decide)]; exact hne _ (by decide) _ q3)
    have G4 := fr_look G3 (x := Str.ofString "first") (v := .ref lf) (by rw [if_neg (by decide), if_neg (by decide), if_neg (by decide)]; exact hne _ (by decide) _ q2)
    have G5 := fr_look G4 (x := Str.ofString "rows") (v := .ref lr) (by rw [if_neg (by decide), if_neg (by decide), if_neg (by decide), if_neg (by decide)]; exact hne _ (by decide) _ q1)
    refine turn1 (cF := cF) (cR := cR) hk KX T K0 e1 sep sep2 hR hF hG hlen hi14 hpos hR.length hF.length b0 b1 c0 c1 (h0 _ (List.getElem_mem hin)) G5 ?_
    simp only [List.cons_append] at N₁
    exact N₁
  · rintro m₁ news₁ h tk ⟨vsR, vsF, cR, cF, rs, tl, rfl, hot, hR, hF, hG, hlen, hpos, q1, q2, q3, q4⟩ F₁ N₁
    refine hQ h tk m₁ vsR vsF cR cF rs tl F₁ (kst_newsOf N₁ ?_) ?_ hR hF hG (by omega) (hpos (by omega)) q1 q2
    · exact sub_cons (sub_cons fun p hp => .tail _ hp)
    · intro p hp b hb
      refine hot p hp b ?_
      simp only [List.mem_cons, List.not_mem_nil, or_false] at hb ⊢
      rcases hb with h | h | h | h | h <;> simp [h]
end Mine
namespace Mine
local macro_rules | `(tactic| walk_at "exec For") => `(tactic| (k_here; (rename Fr _ _ _ _ => lF'); (rename PassesOwn _ _ _ _ => pE'); (with_unfolding_all refine' For_invVF lF' ?k1 ?k2 ?_ ?k4 pE'; (case k1 => exact rfl); (case k2 => exact rfl); (case k4 => (intro _; exact rfl)); k_whole)))
def body6 : List Stmt := tl1 body5
theorem part2 {w : World} {s₀ : Shared} {mg mb : Str → Option Value} {h₀ : Heap} {L fa : Addr} {cdv : Value} {m : Str → Option Value} {s : Shared} {Q : Flow → Shared → Prop} {E : Value → Shared → Prop}
    {lr lf lc : Addr} {o1 o2 o3 : Obj} {vsC : List Value} {ns : List Int} {base common : Int} {tb tc : Tok} :
    (PySem.Challenge.rw_br0003_01.Holds → True) → (hd.heap_39 w.params).In h₀ → TopL s₀ mg mb h₀ → Below callerA h₀ [] h₀ →
    (@LT.lt Nat _ (L + 1 + 1 + 1) lr ∧ @LT.lt Nat _ (L + 1 + 1) lr ∧ @LT.lt Nat _ (L + 1) lr ∧ @LT.lt Nat _ lr lf) →
    PassesOwn (model PG w) (callerA.deeper (lawEnv L fa cdv)) (lawEnv L fa cdv) E → Fr h₀ L s.heap m →
    News h₀ L s.heap ((lf, W.listOf #[] 0) :: (lr, W.listOf #[] 0) :: (lc, W.listOf vsC.toArray 0) :: (L + 1 + 1 + 1, o1) :: (L + 1 + 1, o2) :: (L + 1, o3) :: []) →
    IntsAre vsC ns → ns.length = 16 → (∀ n ∈ ns, 0 ≤ n) → 0 ≤ base → base < 28 → 0 ≤ common → common < 2 ^ base.toNat →
    m (Str.ofString "cells") = some (.ref lc) → m (Str.ofString "rows") = some (.ref lr) → m (Str.ofString "first") = some (.ref lf) → m (Str.ofString "common") = some (.int common tc) → m (Str.ofString "base") = some (.int base tb) →
    (∀ h' tk m' vsR vsF cR cF rs tl, Fr h₀ L h' m' → News h₀ L h' ((lf, W.listOf vsF.toArray cF) :: (lr, W.listOf vsR.toArray cR) :: (L + 1 + 1 + 1, o1) :: (L + 1 + 1, o2) :: (L + 1, o3) :: tl) → OwnOff tl [lf, lr, L + 1 + 1 + 1, L + 1 + 1, L + 1] →
      All2 (PairIn tl) vsR rs → All2 (CidrIn w tl) vsF rs → (∀ r ∈ rs, Good r) → rs.length ≤ 14 → 0 < rs.length → m' (Str.ofString "rows") = some (.ref lr) → m' (Str.ofString "first") = some (.ref lf) →
      wpAny (model PG w) (callerA.deeper (lawEnv L fa cdv)) (execs body6 (lawEnv L fa cdv)) Q E { s with heap := h', toks := tk }) →
    wpAny (model PG w) (callerA.deeper (lawEnv L fa cdv)) (execs body5 (lawEnv L fa cdv)) Q E s := by
  w_top off
  k_fill
  intro hk KX T K0 e1 hE F N hI hn h0 b0 b1 c0 c1 m0 m1 m2 m3 m4 hQ
  have F := fr_look F m0
  dsimp only [body5, lawDef, from5, sixth, defBody, PySem.Challenge.pw_br0003_01, lawEnv, lawS, defScope] at hE ⊢
  repeat' (first | (k_unfold; (try dsimp only)) | (k_end; wrow_close) | (dsimp only; walk1) | walk1 | (leave1; walk_say "STEP leave1"; try dsimp only) | fail "no step")
  rename_i D' ws' h'' F' N' hI' hC' hL' l1
  refine loop1 (a1 := L + 1 + 1 + 1) (a2 := L + 1 + 1) (a3 := L + 1) (o1 := o1) (o2 := o2) (o3 := o3) (lr := lr) (lf := lf) hk KX T K0 ⟨e1.1, e1.2.1, e1.2.2.1, e1.2.2.2, l1.1⟩ F' N' (.tail _ (.head _)) (.tail _ (.tail _ (.head _))) (.head _) (.tail _ (.tail _ (.tail _ (.tail _ (.head _))))) (.tail _ (.tail _ (.tail _ (.tail _ (.tail _ (.head _)))))) (.tail _ (.tail _ (.tail _ (.tail _ (.tail _ (.tail _ (.head _)))))))
    hI' (by omega) (fun n hn => h0 n (List.mem_of_mem_drop hn)) b0 b1 c0 c1 ((if_neg (by decide)).trans m1) ((if_neg (by decide)).trans m2) ((if_neg (by decide)).trans m3) ((if_neg (by decide)).trans m4) ?_
  intro h3 tk3 m' vsR vsF cR cF rs tl F3 N3 g1 g2 g3 g4 g5 g6 g7 g8
  exact hQ h3 tk3 m' vsR vsF cR cF rs tl F3 N3 g1 g2 g3 g4 g5 g6 g7 g8
end Mine
namespace Mine
/- the class's table of sizes, read at a mask of IPv4 -/
def sizes : List (Int × PyData) := (List.range 128).map fun i => (((i + 1 : Nat) : Int), PyData.int (((i + 8) / 8 : Nat) : Int))
def szOf (k : Int) : Int := if k = 0 then 0 else (k + 7) / 8
theorem mask_cases {k : Int} (h0 : 0 ≤ k) (h1 : k ≤ 32) : k = 0 ∨ k = 1 ∨ k = 2 ∨ k = 3 ∨ k = 4 ∨ k = 5 ∨ k = 6 ∨ k = 7 ∨ k = 8 ∨ k = 9 ∨ k = 10 ∨ k = 11 ∨ k = 12 ∨ k = 13 ∨ k = 14 ∨ k = 15 ∨ k = 16 ∨ k = 17 ∨ k = 18 ∨ k = 19 ∨ k = 20 ∨ k = 21 ∨ k = 22 ∨ k = 23 ∨ k = 24 ∨ k = 25 ∨ k = 26 ∨ k = 27 ∨ k = 28 ∨ k = 29 ∨ k = 30 ∨ k = 31 ∨ k = 32 := by omega
theorem sizes_at {k : Int} (h0 : 0 ≤ k) (h1 : k ≤ 32) : KTD.datumAt k sizes = if k = 0 then none else some (.int (szOf k)) := by
  rcases mask_cases h0 h1 with rfl | rfl | rfl | rfl | rfl | rfl | rfl | rfl | rfl | rfl | rfl | rfl | rfl | rfl | rfl | rfl | rfl | rfl | rfl | rfl | rfl | rfl | rfl | rfl | rfl | rfl | rfl | rfl | rfl | rfl | rfl | rfl | rfl <;> rfl
theorem sizes_in {w : World} {h : Heap} (X : (hd.heap_39 w.params).In h) : KTD.Keyed h 29 sizes := kt_keyed_in (a := 29) (D := sizes) X (by kernel_rfl)
theorem size_get {prog : Program} {w w' : World} {A : Around} {E : Value → Shared → Prop} {s : Shared} {k : Int} {tk u : Tok} {Q : Value → Shared → Prop} (X : (hd.heap_39 w.params).In s.heap) (h0 : 0 ≤ k) (h1 : k ≤ 32)
    (h : ∀ t, Q (.int (szOf k) t) { s with toks := s.toks + 1 }) : wpAny (model prog w') A (call (.builtin "dict.get") [.ref 29, .int k tk, .int 0 u]) Q E s :=
  call_get2_intTab ((sizes_in X).keep (fun _ _ e => e) prog w') (PyProof.V.Flat.int 0 u) fun v hv => by
    rw [KTD.lookup_keyed, sizes_at h0 h1] at hv
    by_cases hk : k = 0
    · rw [if_pos hk] at hv
      have hv' : PyProof.V.Flat v (.int 0) := hv
      obtain ⟨t, e⟩ := PyProof.V.Flat.int_inv hv'
      subst e
      have e : szOf k = 0 := by unfold szOf; rw [if_pos hk]
      have := h t
      rw [e] at this
      exact this
    · rw [if_neg hk] at hv
      have hv' : PyProof.V.Flat v (.int (szOf k)) := hv
      obtain ⟨t, e⟩ := PyProof.V.Flat.int_inv hv'
      subst e
      exact h t

/- the octets kept, filled up again, read as a number -/
theorem sz_le {k : Int} (h0 : 0 ≤ k) (h1 : k ≤ 32) : 0 ≤ szOf k ∧ szOf k ≤ 4 ∧ k ≤ 8 * szOf k := by
  unfold szOf
  split <;> omega
theorem kept_value {r : RR} (g : Good r) : KFB.value (List.take (szOf r.1).toNat (big4 r.2) ++ List.replicate (4 - (szOf r.1).toNat) 0) = r.2 := by
  obtain ⟨s0, s1, s2⟩ := sz_le g.lo g.hi
  obtain ⟨q, hq⟩ := g.cut
  have lo := g.nlo
  have hi := g.nhi
  have hm0 := g.lo
  have hm1 := g.hi
  have cutAt : ∀ k : Nat, 8 * szOf r.1 = 32 - (k : Int) → k ≤ 32 → ∃ q' : Int, r.2 = q' * 2 ^ k := by
    intro k hk _
    obtain ⟨d, hd⟩ : ∃ d : Nat, (32 - r.1).toNat = k + d := ⟨(32 - r.1).toNat - k, by omega⟩
    refine ⟨q * 2 ^ d, ?_⟩
    rw [hq, hd, Int.pow_add, Int.mul_assoc, Int.mul_comm (2 ^ d)]
  have h5 : szOf r.1 = 0 ∨ szOf r.1 = 1 ∨ szOf r.1 = 2 ∨ szOf r.1 = 3 ∨ szOf r.1 = 4 := by omega
  unfold big4 KFB.value
  rcases h5 with h | h | h | h | h
  · obtain ⟨q', e⟩ := cutAt 32 (by omega) (by omega)
    have e' : r.2 = q' * 4294967296 := e
    rw [h]
    simp only [Int.toNat_zero, List.take_zero, List.nil_append, Nat.sub_zero, List.replicate_succ, List.replicate_zero, List.foldl_cons, List.foldl_nil]
    omega
  · obtain ⟨q', e⟩ := cutAt 24 (by omega) (by omega)
    have e' : r.2 = q' * 16777216 := e
    rw [h, show (1 : Int).toNat = 1 from rfl]
    simp only [List.take_succ_cons, List.take_zero, List.cons_append, List.nil_append, Nat.reduceSub, List.replicate_succ, List.replicate_zero, List.foldl_cons, List.foldl_nil]
    omega
  · obtain ⟨q', e⟩ := cutAt 16 (by omega) (by omega)
    have e' : r.2 = q' * 65536 := e
    rw [h, show (2 : Int).toNat = 2 from rfl]
    simp only [List.take_succ_cons, List.take_zero, List.cons_append, List.nil_append, Nat.reduceSub, List.replicate_succ, List.replicate_zero, List.foldl_cons, List.foldl_nil]
    omega
  · obtain ⟨q', e⟩ := cutAt 8 (by omega) (by omega)
    have e' : r.2 = q' * 256 := e
    rw [h, show (3 : Int).toNat = 3 from rfl]
    simp only [List.take_succ_cons, List.take_zero, List.cons_append, List.nil_append, Nat.reduceSub, List.replicate_succ, List.replicate_zero, List.foldl_cons, List.foldl_nil]
    omega
  · rw [h, show (4 : Int).toNat = 4 from rfl]
    simp only [List.take_succ_cons, List.take_zero, List.cons_append, List.nil_append, Nat.reduceSub, List.replicate_zero, List.foldl_cons, List.foldl_nil, List.append_nil]
    omega
theorem ints_zeros (n : Nat) : KBw.bInts (Array.replicate n 0) = List.replicate n 0 := by
  unfold KBw.bInts
  simp
theorem clip_sz {k : Int} (h0 : 0 ≤ k) (h1 : k ≤ 4) : clipAt 4 k = k.toNat := by
  obtain ⟨n, rfl⟩ := Int.eq_ofNat_of_zero_le h0
  rw [clipAt_nat]
  omega
section
variable {prog : Program} {w : World} {A : Around} {E : Value → Shared → Prop} {s : Shared} {value slice : PySem.Expr} {b c : Array UInt8} {t u t' : Tok} {h₀ : Heap} {L : Addr} {m : PySem.Str → Option Value} {news : List (Addr × Obj)} {Q : Value → Shared → Prop} {r : RR}
/- self._packed[:size] -/
theorem slice_sz (hF : Fr h₀ L s.heap m) (hN : News h₀ L s.heap news) (g : Good r) (hk : KBw.bInts b = big4 r.2)
    (h : ∀ h' b' t' k, Fr h₀ L h' m → News h₀ L h' news → KBw.bInts b' = List.take (szOf r.1).toNat (big4 r.2) → Q (.bytes b' t') { s with heap := h', toks := k })
    (hs : subscripted slice false (.bytes b t) (.ref s.heap.objs.size) = operate [.ref s.heap.objs.size, .bytes b t] (getItem (.bytes b t) (.ref s.heap.objs.size)) := by with_unfolding_all rfl)
    (ht : ∀ r, letTemporaryGo value (.bytes b t) r = pure () := by intro _; with_unfolding_all rfl) :
    wpAny (model prog w) A (subscriptTail value slice (.bytes b t) (.ref s.heap.objs.size)) Q E { s with heap := s.heap.push { cls := .type "slice", data := .fields #[.none, .int (szOf r.1) u, .none] } } := by
  obtain ⟨s0, s1, _⟩ := sz_le g.lo g.hi
  refine KBc.slice_K hF hN hk .none (.int (szOf r.1) u) (by simp [big4]) (fun h' t' k F' N' e => h h' _ t' k F' N' ?_) hs ht
  rw [e]
  show List.take (clipAt (big4 r.2).length (szOf r.1) - 0) (List.drop 0 (big4 r.2)) = _
  rw [show (big4 r.2).length = 4 from rfl, clip_sz s0 s1, List.drop_zero, Nat.sub_zero]
/- len(octets) -/
theorem len_kept (g : Good r) (hk : KBw.bInts b = List.take (szOf r.1).toNat (big4 r.2)) (h : Q (.int (szOf r.1) (s.toks + 1)) { s with toks := s.toks + 1 + 1 }) : wpAny (model prog w) A (call (.builtin "len") [.bytes b t]) Q E s := by
  obtain ⟨s0, s1, _⟩ := sz_le g.lo g.hi
  have e : (List.take (szOf r.1).toNat (big4 r.2)).length = (szOf r.1).toNat := by
    rw [List.length_take]
    show min _ 4 = _
    omega
  refine KBw.len_K hk (by rw [e]; omega) ?_
  rw [e, Int.toNat_of_nonneg s0]
  exact h
/- octets + bytes(4 - len(octets)) -/
theorem add_kept (g : Good r) (hb : KBw.bInts b = List.take (szOf r.1).toNat (big4 r.2)) (hc : KBw.bInts c = List.replicate (4 - szOf r.1).toNat 0)
    (h : ∀ b' t' k, KBw.bInts b' = List.take (szOf r.1).toNat (big4 r.2) ++ List.replicate (4 - (szOf r.1).toNat) 0 → Q (.bytes b' t') { s with toks := k }) : wpAny (model prog w) A (binaryOp .Add (.bytes b t) (.bytes c u)) Q E s := by
  obtain ⟨s0, s1, _⟩ := sz_le g.lo g.hi
  refine KBa.add_K hb hc (by rw [List.length_take, List.length_replicate]; omega) fun t' k e => h _ t' k ?_
  rw [e, show (4 - szOf r.1).toNat = 4 - (szOf r.1).toNat by omega]
/- int.from_bytes(.., 'big') -/
theorem from_kept {x : Addr} (N : News h₀ L s.heap news) (hm : (x, KFB.bound) ∈ news) (g : Good r) (hb : KBw.bInts b = List.take (szOf r.1).toNat (big4 r.2) ++ List.replicate (4 - (szOf r.1).toNat) 0)
    (h : ∀ t' k, Q (.int r.2 t') { s with toks := k }) : wpAny (model prog w) A (call (.ref x) [.bytes b t, .str (PySem.Str.ofString "big") u]) Q E s := by
  refine KFB.call_big N hm hb ?_ ?_
  · rw [List.length_append, List.length_take, List.length_replicate]
    show min _ 4 + _ ≤ 8
    omega
  · rw [kept_value g]
    exact h
end
end Mine
namespace Mine
local macro_rules | `(tactic| walk_at "call type:bytes") => `(tactic| ((with_reducible show wpAny _ _ (call (Value.type "bytes") [Value.int _ _]) _ _ _); refine call_bytes_int ?h0 ?h1 ?_; (case h0 => omega); (case h1 => omega); intro _ _))
local macro_rules | `(tactic| walk_at "call builtin:dict.get") => `(tactic| (k_here; (with_reducible show wpAny _ _ (call (Value.builtin "dict.get") [Value.ref _, Value.int _ _, Value.int _ _]) _ _ _); k_dflt (refine size_get (by k_in) ?h0 ?h1 ?_; (case h0 => exact Good.lo (by with_reducible assumption)); (case h1 => exact Good.hi (by with_reducible assumption))); intro _))
local macro_rules | `(tactic| walk_at "subscriptTail") => `(tactic| (k_here; (with_reducible show wpAny _ _ (subscriptTail _ (Expr.Slice _ _ none _) (Value.bytes _ _) (Value.ref _)) _ _ _); (with_reducible rename Fr _ _ _ _ => F'); (with_reducible rename News _ _ _ _ => N'); (refine slice_sz (s := ⟨_, _, _, _, _⟩) F' N' (by with_reducible assumption) (by with_reducible assumption) ?_); intro h' b' t' k' F' N' hb'))
local macro_rules | `(tactic| walk_at "call builtin:len") => `(tactic| (k_here; (with_reducible show wpAny _ _ (call (Value.builtin "len") [Value.bytes _ _]) _ _ _); (refine len_kept (by with_reducible assumption) (by with_reducible assumption) ?_)))
local macro_rules | `(tactic| walk_at "binaryOp Add bytes bytes") => `(tactic| (k_here; (with_reducible show wpAny _ _ (binaryOp Operator.Add (Value.bytes _ _) (Value.bytes _ _)) _ _ _); (refine add_kept (by with_reducible assumption) (by with_reducible assumption) (ints_zeros _) ?_); intro b' t' k' hb'))
local macro_rules | `(tactic| walk_at "call ref") => `(tactic| (k_here; (with_reducible show wpAny _ _ (call (Value.ref _) [Value.bytes _ _, Value.str _ _]) _ _ _); (refine from_kept (by with_reducible assumption) (by k_mem) (by with_reducible assumption) (by with_reducible assumption) ?_); intro _ _))
local macro_rules | `(tactic| size_fits) => `(tactic| (simp only [List.size_toArray, PySem.sizeLine_eq]; omega))
def body7 : List Stmt := tl1 body6
def body8 : List Stmt := tl1 body7
def body2 : List Stmt := forBody (hd1 body8)
theorem turn2 {w : World} {s₀ : Shared} {mg mb : Str → Option Value} {h₀ : Heap} {L fa : Addr} {cdv : Value} {m₁ : Str → Option Value} {tl : List (Addr × Obj)} {s : Shared} {Q : Flow → Shared → Prop} {E : Value → Shared → Prop}
    {x dx lt D a1 : Addr} {o1 o2 o3 : Obj} {vs vsT : List Value} {cT c : Nat} {r : RR} {b : Array UInt8} {t1 t2 t3 t4 t5 : Tok} :
    (PySem.Challenge.rw_br0003_01.Holds → True) → (hd.heap_39 w.params).In h₀ → TopL s₀ mg mb h₀ → Below callerA h₀ [] h₀ →
    (@LT.lt Nat _ (L + 1 + 1 + 1) D ∧ @LT.lt Nat _ (L + 1 + 1) D ∧ @LT.lt Nat _ (L + 1) D ∧ @LT.lt Nat _ D lt ∧ @LT.lt Nat _ x D ∧ @LT.lt Nat _ dx D) → OwnOff tl [lt, D, L + 1 + 1 + 1, L + 1 + 1, L + 1] →
    o2.data = .cell (some (.ref lt)) → KBw.bInts b = big4 r.2 → Good r → vsT.length < 20 →
    Fr h₀ L s.heap (fun y => if y = Str.ofString "one" then some (.ref x) else m₁ y) →
    News h₀ L s.heap ((x, instObj 146 dx) :: (dx, cdict w b r.1 t1 t2 t3 t4 t5) :: (lt, W.listOf vsT.toArray cT) :: (D, W.listOf vs.toArray c) :: (L + 1 + 1 + 1, o1) :: (L + 1 + 1, o2) :: (L + 1, o3) :: tl) →
    (∀ h' tk m' P u u', Fr h₀ L h' m' → News h₀ L h' ((P, pairObj (.int r.1 u) (.int r.2 u')) :: (lt, W.listOf (vsT ++ [Value.ref P]).toArray (cT + 1)) :: (D, W.listOf vs.toArray c) :: (L + 1 + 1 + 1, o1) :: (L + 1 + 1, o2) :: (L + 1, o3) :: tl) →
      (@LT.lt Nat _ lt P ∧ @LT.lt Nat _ D P ∧ @LT.lt Nat _ (L + 1 + 1 + 1) P ∧ @LT.lt Nat _ (L + 1 + 1) P ∧ @LT.lt Nat _ (L + 1) P ∧ AllLt P tl) → (∀ z, z ≠ Str.ofString "octets" → z ≠ Str.ofString "one" → m' z = m₁ z) → Q .next { s with heap := h', toks := tk }) →
    wpAny (model PG w) (callerA.deeper (lawEnv L fa cdv)) (execs body2 (lawEnv L fa cdv)) Q E s := by
  w_top off
  k_fill
  intro hk KX T K0 e1 hOff d2 hb hG hz F N hQ
  have hsz := sz_le hG.lo hG.hi
  dsimp only [body2, body8, body7, body6, body5, tl1, forBody, hd1, lawDef, from5, sixth, defBody, PySem.Challenge.pw_br0003_01, lawEnv, lawS, defScope]
  repeat' (first | (k_unfold; (try dsimp only)) | (k_end; wrow_close) | (dsimp only; walk1) | walk1 | (leave1; walk_say "STEP leave1"; try dsimp only) | fail "no step")
  rename_i tU kU P h'' l1 h3 F' N'
  rw [List.push_toArray] at N'
  refine hQ _ _ _ P t4 tU F' (kst_newsOf N' ?_) ⟨l1.2.2.2.2.1, l1.2.2.2.2.2.1, l1.2.2.2.2.2.2.1, l1.2.2.2.2.2.2.2.1, l1.2.2.2.2.2.2.2.2.1, l1.2.2.2.2.2.2.2.2.2⟩ fun z h1 h2 => ?_
  · exact sub_cons fun p hp => .tail _ (.tail _ (.tail _ (.tail _ hp)))
  · show (if z = _ then _ else if z = _ then _ else _) = _
    rw [if_neg h1, if_neg h2]
end Mine
namespace Mine
def J2 (L lr lf lt D : Addr) (o1 o2 o3 : Obj) (vs vsF vsR : List Value) (c cF cR : Nat) (rs : List RR) (tl : List (Addr × Obj)) (i : Nat) (m : Str → Option Value) (nx : List (Addr × Obj)) : Prop :=
  ∃ vsT cT tl', nx = (lt, W.listOf vsT.toArray cT) :: (D, W.listOf vs.toArray c) :: (L + 1 + 1 + 1, o1) :: (L + 1 + 1, o2) :: (L + 1, o3) :: (lf, W.listOf vsF.toArray cF) :: (lr, W.listOf vsR.toArray cR) :: tl' ∧
    OwnOff tl' [lt, D, lf, lr, L + 1 + 1 + 1, L + 1 + 1, L + 1] ∧ (∀ p ∈ tl, p ∈ tl') ∧ All2 (PairIn tl') vsT (rs.take i) ∧ m (Str.ofString "rows") = some (.ref lr)
theorem loop2 {w : World} {s₀ : Shared} {mg mb : Str → Option Value} {h₀ : Heap} {L fa : Addr} {cdv : Value} {m : Str → Option Value} {s : Shared} {Q : Flow → Shared → Prop} {E : Value → Shared → Prop}
    {lr lf lt D : Addr} {o1 o2 o3 : Obj} {vs vsF vsR : List Value} {c cF cR : Nat} {rs : List RR} {tl : List (Addr × Obj)}
    (hk : PySem.Challenge.rw_br0003_01.Holds → True) (KX : (hd.heap_39 w.params).In h₀) (T : TopL s₀ mg mb h₀) (K0 : Below callerA h₀ [] h₀)
    (e1 : @LT.lt Nat _ (L + 1 + 1 + 1) lr ∧ @LT.lt Nat _ (L + 1 + 1) lr ∧ @LT.lt Nat _ (L + 1) lr ∧ @LT.lt Nat _ lr lf ∧ @LT.lt Nat _ lf D ∧ @LT.lt Nat _ D lt) (hD : AllLt D tl) (d2 : o2.data = .cell (some (.ref lt)))
    (F : Fr h₀ L s.heap m) (N : News h₀ L s.heap ((lt, W.listOf #[] 0) :: (D, W.listOf vs.toArray c) :: (lf, W.listOf vsF.toArray cF) :: (lr, W.listOf vsR.toArray cR) :: (L + 1 + 1 + 1, o1) :: (L + 1 + 1, o2) :: (L + 1, o3) :: tl))
    (hOff : OwnOff tl [lf, lr, L + 1 + 1 + 1, L + 1 + 1, L + 1]) (hC : All2 (CidrIn w tl) vs rs) (hG : ∀ r ∈ rs, Good r) (h14 : rs.length ≤ 14) (m1 : m (Str.ofString "rows") = some (.ref lr))
    (hQ : ∀ h' tk m' vsT cT tl', Fr h₀ L h' m' → News h₀ L h' ((lt, W.listOf vsT.toArray cT) :: (D, W.listOf vs.toArray c) :: (L + 1 + 1 + 1, o1) :: (L + 1 + 1, o2) :: (L + 1, o3) :: (lf, W.listOf vsF.toArray cF) :: (lr, W.listOf vsR.toArray cR) :: tl') →
      OwnOff tl' [lt, D, lf, lr, L + 1 + 1 + 1, L + 1 + 1, L + 1] → (∀ p ∈ tl, p ∈ tl') → All2 (PairIn tl') vsT rs → m' (Str.ofString "rows") = some (.ref lr) → Q .next { s with heap := h', toks := tk }) :
    wpAny (model PG w) (callerA.deeper (lawEnv L fa cdv)) (pyIter (.ref D)) (fun it s₂ => LoopAtV PG w (callerA.deeper (lawEnv L fa cdv)) h₀ (lawEnv L fa cdv) (Str.ofString "one") body2 Q E it s₂) E s := by
  have hz : vs.length = rs.length := hC.length
  have oD := allLt_mem hD
  refine kdl_iter (news := (lt, W.listOf [].toArray 0) :: (D, W.listOf vs.toArray c) :: (L + 1 + 1 + 1, o1) :: (L + 1 + 1, o2) :: (L + 1, o3) :: (lf, W.listOf vsF.toArray cF) :: (lr, W.listOf vsR.toArray cR) :: tl) (fun i m nx => J2 L lr lf lt D o1 o2 o3 vs vsF vsR c cF cR rs tl i m nx) rfl (.tail _ (.head _)) F ?_ ?_ ?_ ?_
  · refine kst_newsOf N (sub_cons (sub_cons ?_))
    intro p hp
    rcases List.mem_cons.mp hp with e | hp
    · exact in_of e (.tail _ (.tail _ (.head _)))
    rcases List.mem_cons.mp hp with e | hp
    · exact in_of e (.tail _ (.tail _ (.tail _ (.head _))))
    rcases List.mem_cons.mp hp with e | hp
    · exact in_of e (.tail _ (.tail _ (.tail _ (.tail _ (.head _)))))
    rcases List.mem_cons.mp hp with e | hp
    · exact in_of e (.head _)
    rcases List.mem_cons.mp hp with e | hp
    · exact in_of e (.tail _ (.head _))
    exact .tail _ (.tail _ (.tail _ (.tail _ (.tail _ hp))))
  · refine ⟨[], 0, tl, rfl, ?_, fun _ h => h, trivial, m1⟩
    intro p hp b hb
    have q := oD p hp
    simp only [List.mem_cons, List.not_mem_nil, or_false] at hb
    rcases hb with rfl | rfl | rfl | rfl | rfl | rfl | rfl
    · refine neN ?_; omega
    · refine neN ?_; omega
    · exact hOff p hp _ (by simp)
    · exact hOff p hp _ (by simp)
    · exact hOff p hp _ (by simp)
    · exact hOff p hp _ (by simp)
    · exact hOff p hp _ (by simp)
  · rintro i v m₁ news₁ h tk own hv hoff _ ⟨vsT, cT, tl', rfl, hot, hsub, hT, q1⟩ F₁ N₁
    have hin : i < rs.length := by rw [← hz]; exact (List.getElem?_eq_some_iff.mp hv).1
    obtain ⟨v', hv', hI⟩ := hC.get hin
    have ev : v = v' := by rw [hv'] at hv; exact (Option.some.inj hv).symm
    subst ev
    obtain ⟨x, dx, b, t1, t2, t3, t4, t5, rfl, hx, hdx, hb⟩ := hI
    have sep : OwnOff ((lf, W.listOf vsF.toArray cF) :: (lr, W.listOf vsR.toArray cR) :: (tl' ++ own)) [lt, D, L + 1 + 1 + 1, L + 1 + 1, L + 1] := by
      intro p hp a ha
      simp only [List.mem_cons, List.not_mem_nil, or_false] at hp ha
      rcases hp with rfl | rfl | hp
      · rcases ha with rfl | rfl | rfl | rfl | rfl <;> (refine neN ?_; dsimp only; omega)
      · rcases ha with rfl | rfl | rfl | rfl | rfl <;> (refine neN ?_; dsimp only; omega)
      · rcases List.mem_append.mp hp with hp | hp
        · refine hot p hp a ?_
          simp only [List.mem_cons, List.not_mem_nil, or_false]
          rcases ha with h | h | h | h | h <;> simp [h]
        · refine hoff p hp a ?_
          simp only [List.map_cons, List.mem_cons]
          rcases ha with h | h | h | h | h <;> simp [h]
    have hx' : x < D ∧ dx < D := ⟨oD _ hx, oD _ hdx⟩
    have hTl : vsT.length < 20 := by rw [hT.length, List.length_take]; omega
    refine turn2 (a1 := L) (s := { s with heap := h, toks := tk }) (x := x) (dx := dx) (lt := lt) (D := D) (o1 := o1) (o2 := o2) (o3 := o3) (vs := vs) (c := c) (vsT := vsT) (cT := cT) (b := b) (r := rs[i]'hin) (t1 := t1) (t2 := t2) (t3 := t3) (t4 := t4) (t5 := t5) hk KX T K0 ⟨by omega, by omega, by omega, e1.2.2.2.2.2, oD _ hx, oD _ hdx⟩ sep d2 hb (hG _ (List.getElem_mem hin)) hTl F₁ (kst_newsOf N₁ ?_) ?_
    · intro p hp
      rcases List.mem_cons.mp hp with e | hp
      · exact in_of e (List.mem_append_left _ (.tail _ (.tail _ (.tail _ (.tail _ (.tail _ (.tail _ (.tail _ (hsub _ hx)))))))))
      rcases List.mem_cons.mp hp with e | hp
      · exact in_of e (List.mem_append_left _ (.tail _ (.tail _ (.tail _ (.tail _ (.tail _ (.tail _ (.tail _ (hsub _ hdx)))))))))
      simp only [List.cons_append]
      exact hp
    · intro h' tk' m' P u u' F' N' l1 hm'
      have oP := allLt_mem l1.2.2.2.2.2
      have oP' : ∀ p ∈ tl' ++ own, @LT.lt Nat _ p.1 P := fun p hp => oP p (.tail _ (.tail _ hp))
      have rsT : rs.take (i + 1) = rs.take i ++ [rs[i]'hin] := by rw [List.take_add_one, List.getElem?_eq_getElem hin] <;> rfl
      refine InvEndG.intro F' N' (nx := (lt, W.listOf (vsT ++ [Value.ref P]).toArray (cT + 1)) :: (D, W.listOf vs.toArray c) :: (L + 1 + 1 + 1, o1) :: (L + 1 + 1, o2) :: (L + 1, o3) :: (lf, W.listOf vsF.toArray cF) :: (lr, W.listOf vsR.toArray cR) :: (P, pairObj (.int (rs[i]'hin).1 u) (.int (rs[i]'hin).2 u')) :: tl')
        ⟨.tail _ (.head _), vsT ++ [Value.ref P], cT + 1, _, rfl, ?_, fun p hp => .tail _ (hsub p hp), ?_, (hm' _ (by decide) (by decide)).trans q1⟩ ?_ ?_ ?_
      · intro p hp a ha
        have plf := oP _ (List.Mem.head _)
        have plr := oP _ (List.Mem.tail _ (List.Mem.head _))
        rcases List.mem_cons.mp hp with rfl | hp
        · simp only [List.mem_cons, List.not_mem_nil, or_false] at ha
          rcases ha with rfl | rfl | rfl | rfl | rfl | rfl | rfl <;> (refine neN ?_; dsimp only at plf plr ⊢; omega)
        · exact hot p hp a ha
      · rw [rsT]
        exact (hT.mono fun v r => PairIn.mono fun p hp => .tail _ hp).snoc ⟨P, u, u', rfl, .head _⟩
      · intro p hp a ha
        simp only [List.map_cons, List.mem_cons] at ha
        have hp' : p ∈ tl' ++ own := List.mem_append_right _ hp
        have q := oP' p hp'
        rcases ha with rfl | rfl | rfl | rfl | rfl | rfl | rfl | rfl | ha
        · exact hoff p hp _ (by simp)
        · exact hoff p hp _ (by simp)
        · exact hoff p hp _ (by simp)
        · exact hoff p hp _ (by simp)
        · exact hoff p hp _ (by simp)
        · exact hoff p hp _ (by simp)
        · exact hoff p hp _ (by simp)
        · refine neN ?_; omega
        · exact hoff p hp _ (by simp only [List.map_cons, List.mem_cons]; exact .inr (.inr (.inr (.inr (.inr (.inr (.inr ha)))))))
      · intro p hp
        rcases List.mem_cons.mp hp with e | hp
        · exact in_of e (.tail _ (.head _))
        rcases List.mem_cons.mp hp with e | hp
        · exact in_of e (.tail _ (.tail _ (.head _)))
        rcases List.mem_cons.mp hp with e | hp
        · exact in_of e (.tail _ (.tail _ (.tail _ (.head _))))
        rcases List.mem_cons.mp hp with e | hp
        · exact in_of e (.tail _ (.tail _ (.tail _ (.tail _ (.head _)))))
        rcases List.mem_cons.mp hp with e | hp
        · exact in_of e (.tail _ (.tail _ (.tail _ (.tail _ (.tail _ (.head _))))))
        rcases List.mem_cons.mp hp with e | hp
        · exact in_of e (.tail _ (.tail _ (.tail _ (.tail _ (.tail _ (.tail _ (.head _)))))))
        rcases List.mem_cons.mp hp with e | hp
        · exact in_of e (.tail _ (.tail _ (.tail _ (.tail _ (.tail _ (.tail _ (.tail _ (.head _))))))))
        rcases List.mem_cons.mp hp with e | hp
        · exact in_of e (.head _)
        exact .tail _ (.tail _ (.tail _ (.tail _ (.tail _ (.tail _ (.tail _ (.tail _ (List.mem_append_left _ hp))))))))
      · exact fun p hp => .tail _ (.tail _ (.tail _ (.tail _ (.tail _ (.tail _ (.tail _ (.tail _ (List.mem_append_right _ hp))))))))
  · rintro m₁ news₁ h tk ⟨vsT, cT, tl', rfl, hot, hsub, hT, q1⟩ F₁ N₁
    rw [hz, List.take_length] at hT
    exact hQ h tk m₁ vsT cT tl' F₁ N₁ hot hsub hT q1
end Mine
namespace Mine
local macro_rules | `(tactic| walk_at "exec For") => `(tactic| (k_here; (rename Fr _ _ _ _ => lF'); (rename PassesOwn _ _ _ _ => pE'); (with_unfolding_all refine' For_invVF lF' ?k1 ?k2 ?_ ?k4 pE'; (case k1 => exact rfl); (case k2 => exact rfl); (case k4 => (intro _; exact rfl)); k_whole)))
def body9 : List Stmt := tl1 body8
theorem part3 {w : World} {s₀ : Shared} {mg mb : Str → Option Value} {h₀ : Heap} {L fa : Addr} {cdv : Value} {m : Str → Option Value} {s : Shared} {Q : Flow → Shared → Prop} {E : Value → Shared → Prop}
    {lr lf : Addr} {o1 o2 o3 : Obj} {vsR vsF : List Value} {cR cF : Nat} {rs : List RR} {tl : List (Addr × Obj)} :
    (PySem.Challenge.rw_br0003_01.Holds → True) → (hd.heap_39 w.params).In h₀ → TopL s₀ mg mb h₀ → Below callerA h₀ [] h₀ →
    (@LT.lt Nat _ (L + 1 + 1 + 1) lr ∧ @LT.lt Nat _ (L + 1 + 1) lr ∧ @LT.lt Nat _ (L + 1) lr ∧ @LT.lt Nat _ lr lf) → o2.data = .cell none → o3.data = .cell none →
    PassesOwn (model PG w) (callerA.deeper (lawEnv L fa cdv)) (lawEnv L fa cdv) E → Fr h₀ L s.heap m →
    News h₀ L s.heap ((lf, W.listOf vsF.toArray cF) :: (lr, W.listOf vsR.toArray cR) :: (L + 1 + 1 + 1, o1) :: (L + 1 + 1, o2) :: (L + 1, o3) :: tl) → OwnOff tl [lf, lr, L + 1 + 1 + 1, L + 1 + 1, L + 1] →
    All2 (PairIn tl) vsR rs → All2 (CidrIn w tl) vsF rs → (∀ r ∈ rs, Good r) → rs.length ≤ 14 → 0 < rs.length → m (Str.ofString "rows") = some (.ref lr) → m (Str.ofString "first") = some (.ref lf) →
    (∀ h' tk m' lt D o2' o3' vs c vsT cT rs' tl', Fr h₀ L h' m' → News h₀ L h' ((lt, W.listOf vsT.toArray cT) :: (D, W.listOf vs.toArray c) :: (L + 1 + 1 + 1, o1) :: (L + 1 + 1, o2') :: (L + 1, o3') :: (lr, W.listOf vsR.toArray cR) :: tl') →
      OwnOff tl' [lt, D, lr, L + 1 + 1 + 1, L + 1 + 1, L + 1] → (@LT.lt Nat _ (L + 1 + 1 + 1) lr ∧ @LT.lt Nat _ (L + 1 + 1) lr ∧ @LT.lt Nat _ (L + 1) lr ∧ @LT.lt Nat _ lr D ∧ @LT.lt Nat _ D lt) →
      o2'.data = .cell (some (.ref lt)) → o3'.data = .cell (some (.ref D)) →
      All2 (PairIn tl') vsR rs → All2 (PairIn tl') vsT rs' → All2 (CidrIn w tl') vs rs' → (∀ r ∈ rs, Good r) → rs'.Perm rs → byKey ckey rs' → rs.length ≤ 14 → 0 < rs.length → m' (Str.ofString "rows") = some (.ref lr) →
      wpAny (model PG w) (callerA.deeper (lawEnv L fa cdv)) (execs body9 (lawEnv L fa cdv)) Q E { s with heap := h', toks := tk }) →
    wpAny (model PG w) (callerA.deeper (lawEnv L fa cdv)) (execs body6 (lawEnv L fa cdv)) Q E s := by
  w_top off
  k_fill
  intro hk KX T K0 e1 d2 d3 hE F N hOff hR hF hG h14 hpos m1 m2 hQ
  have F := fr_look (fr_look F m1) ((if_neg (by decide)).trans m2)
  dsimp only [body6, body5, tl1, lawDef, from5, sixth, defBody, PySem.Challenge.pw_br0003_01, lawEnv, lawS, defScope] at hE ⊢
  repeat' (first | (k_unfold; (try dsimp only)) | (k_end; wrow_close) | (dsimp only; walk1) | walk1 | (leave1; walk_say "STEP leave1"; try dsimp only) | fail "no step")
  refine cidr_sorted hk KX T K0 (by assumption) (by assumption) (kso_isList (its := vsF.toArray) (by assumption) (.head _) rfl) (tl := tl) (fun p hp => .tail _ (.tail _ (.tail _ (.tail _ (.tail _ hp))))) hF hG (by omega) ?_
  intro D c h1 tk1 vs' rs' F1 N1 l1 hC hP hS
  k_lt l1
  repeat' (first | (k_unfold; (try dsimp only)) | (k_end; wrow_close) | (dsimp only; walk1) | walk1 | (leave1; walk_say "STEP leave1"; try dsimp only) | fail "no step")
  rename_i h2 o3' d3' lt h3 l2 h4 o2' F4 N4 d2'
  refine loop2 (lr := lr) (lf := lf) (o1 := o1) (o2 := o2') (o3 := o3') (vsF := vsF) (vsR := vsR) (cF := cF) (cR := cR) (c := c) (vs := vs') (tl := tl) hk KX T K0 ⟨e1.1, e1.2.1, e1.2.2.1, e1.2.2.2, l1.1, l2.1⟩ l1.2.2.2.2.2 d2' F4 N4 hOff hC (fun r hr => hG r (hP.mem_iff.mp hr)) (by rw [hP.length_eq]; exact h14) ((if_neg (by decide)).trans (if_pos rfl)) ?_
  intro h5 tk5 m5 vsT cT tl' F5 N5 hot hsub hT q5
  refine hQ h5 tk5 m5 lt D o2' o3' vs' c vsT cT rs' ((lf, W.listOf vsF.toArray cF) :: tl') F5 (kst_newsOf N5 ?_) ?_ ⟨e1.1, e1.2.1, e1.2.2.1, by omega, l2.1⟩ d2' d3' (hR.mono fun v r => PairIn.mono fun p hp => .tail _ (hsub p hp)) (hT.mono fun v r => PairIn.mono fun p hp => .tail _ hp) (hC.mono fun v r => CidrIn.mono fun p hp => .tail _ (hsub p hp)) hG hP hS h14 hpos q5
  · refine sub_cons (sub_cons (sub_cons (sub_cons (sub_cons ?_))))
    intro p hp
    rcases List.mem_cons.mp hp with e | hp
    · exact in_of e (.tail _ (.head _))
    rcases List.mem_cons.mp hp with e | hp
    · exact in_of e (.head _)
    exact .tail _ (.tail _ hp)
  · intro p hp a ha
    simp only [List.mem_cons, List.not_mem_nil, or_false] at ha
    rcases List.mem_cons.mp hp with rfl | hp
    · rcases ha with rfl | rfl | rfl | rfl | rfl | rfl <;> (refine neN ?_; dsimp only; omega)
    · refine hot p hp a ?_
      simp only [List.mem_cons, List.not_mem_nil, or_false]
      rcases ha with h | h | h | h | h | h <;> simp [h]
end Mine
namespace Mine
theorem byKey_pairwise {key : RR → Int} {rs : List RR} (h : byKey key rs) : rs.Pairwise (fun a b => key a ≤ key b) := by
  rw [List.pairwise_iff_getElem]
  intro i j hi hj hij
  have := h i j (by omega) hj
  rw [List.getD_eq_getElem?_getD, List.getD_eq_getElem?_getD, List.getElem?_eq_getElem hi, List.getElem?_eq_getElem hj] at this
  exact this
theorem tkey_inj {a b : RR} (ha : Good a) (hb : Good b) (h : tkey a = tkey b) : a = b := by
  have a1 := ha.nlo
  have a2 := ha.nhi
  have b1 := hb.nlo
  have b2 := hb.nhi
  unfold tkey at h
  exact Prod.ext (by omega) (by omega)
theorem ckey_inj {a b : RR} (ha : Good a) (hb : Good b) (h : ckey a = ckey b) : a = b := by
  have a1 := ha.lo
  have a2 := ha.hi
  have b1 := hb.lo
  have b2 := hb.hi
  unfold ckey at h
  exact Prod.ext (by omega) (by omega)
theorem sorted_unique {key : RR → Int} {a b : List RR} (hi : ∀ x ∈ a, ∀ y ∈ a, key x = key y → x = y) (hp : a.Perm b) (ha : byKey key a) (hb : byKey key b) : a = b := by
  refine List.Perm.eq_of_pairwise (le := fun x y => key x ≤ key y) ?_ (byKey_pairwise ha) (byKey_pairwise hb) hp
  intro x y hx hy h1 h2
  exact hi x hx y (hp.mem_iff.mpr hy) (Int.le_antisymm h1 h2)
end Mine
namespace Mine
local macro_rules | `(tactic| walk_at "exec For") => `(tactic| (k_here; (rename Fr _ _ _ _ => lF'); (rename PassesOwn _ _ _ _ => pE'); (with_unfolding_all refine' For_invVF lF' ?k1 ?k2 ?_ ?k4 pE'; (case k1 => exact rfl); (case k2 => exact rfl); (case k4 => (intro _; exact rfl)); k_whole)))
def body10 : List Stmt := tl1 body9
theorem part4 {w : World} {s₀ : Shared} {mg mb : Str → Option Value} {h₀ : Heap} {L fa : Addr} {cdv : Value} {m : Str → Option Value} {s : Shared} {Q : Flow → Shared → Prop} {E : Value → Shared → Prop}
    {lr lt D : Addr} {o1 o2 o3 : Obj} {vsR vsT vs : List Value} {cR cT c : Nat} {rs rs' : List RR} {tl : List (Addr × Obj)} :
    (PySem.Challenge.rw_br0003_01.Holds → True) → (hd.heap_39 w.params).In h₀ → TopL s₀ mg mb h₀ → Below callerA h₀ [] h₀ →
    PassesOwn (model PG w) (callerA.deeper (lawEnv L fa cdv)) (lawEnv L fa cdv) E → Fr h₀ L s.heap m →
    News h₀ L s.heap ((lt, W.listOf vsT.toArray cT) :: (D, W.listOf vs.toArray c) :: (L + 1 + 1 + 1, o1) :: (L + 1 + 1, o2) :: (L + 1, o3) :: (lr, W.listOf vsR.toArray cR) :: tl) →
    OwnOff tl [lt, D, lr, L + 1 + 1 + 1, L + 1 + 1, L + 1] → (@LT.lt Nat _ (L + 1 + 1 + 1) lr ∧ @LT.lt Nat _ (L + 1 + 1) lr ∧ @LT.lt Nat _ (L + 1) lr ∧ @LT.lt Nat _ lr D ∧ @LT.lt Nat _ D lt) →
    o2.data = .cell (some (.ref lt)) → o3.data = .cell (some (.ref D)) →
    All2 (PairIn tl) vsR rs → All2 (PairIn tl) vsT rs' → All2 (CidrIn w tl) vs rs' → (∀ r ∈ rs, Good r) → rs'.Perm rs → byKey ckey rs' → rs.length ≤ 14 → 0 < rs.length → m (Str.ofString "rows") = some (.ref lr) →
    (∀ h' tk m', Fr h₀ L h' m' → News h₀ L h' ((lt, W.listOf vsT.toArray cT) :: (D, W.listOf vs.toArray c) :: (L + 1 + 1 + 1, o1) :: (L + 1 + 1, o2) :: (L + 1, o3) :: (lr, W.listOf vsR.toArray cR) :: tl) → wpAny (model PG w) (callerA.deeper (lawEnv L fa cdv)) (execs body10 (lawEnv L fa cdv)) Q E { s with heap := h', toks := tk }) →
    wpAny (model PG w) (callerA.deeper (lawEnv L fa cdv)) (execs body9 (lawEnv L fa cdv)) Q E s := by
  w_top off
  k_fill
  intro hk KX T K0 hE F N hOff e1 d2 d3 hR hT hC hG hP hS h14 hpos m1 hQ
  have F := fr_look F m1
  have hG' : ∀ r ∈ rs', Good r := fun r hr => hG r (hP.mem_iff.mp hr)
  have h14' : rs'.length < 64 := by rw [hP.length_eq]; omega
  dsimp only [body10, body9, body8, body7, body6, body5, tl1, lawDef, from5, sixth, defBody, PySem.Challenge.pw_br0003_01, lawEnv, lawS, defScope] at hE hQ ⊢
  repeat' (first | (k_unfold; (try dsimp only)) | (k_end; wrow_close) | (dsimp only; walk1) | walk1 | (leave1; walk_say "STEP leave1"; try dsimp only) | fail "no step")
  refine pair_sorted F N (kso_isList (its := vsT.toArray) N (.head _) rfl) (tl := tl) (fun p hp => .tail _ (.tail _ (.tail _ (.tail _ (.tail _ (.tail _ hp)))))) hT hG' h14' ?_
  intro D1 c1 h1 tk1 vs1 rs1 F1 N1 l1 hT1 hP1 hS1
  k_lt l1
  repeat' (first | (k_unfold; (try dsimp only)) | (k_end; wrow_close) | (dsimp only; walk1) | walk1 | (leave1; walk_say "STEP leave1"; try dsimp only) | fail "no step")
  refine pair_sorted F1 N1 (kso_isList (its := vsR.toArray) N1 (.tail _ (.tail _ (.tail _ (.tail _ (.tail _ (.tail _ (.head _))))))) rfl) (tl := tl) (fun p hp => .tail _ (.tail _ (.tail _ (.tail _ (.tail _ (.tail _ (.tail _ hp))))))) hR hG (by omega) ?_
  intro D2 c2 h2 tk2 vs2 rs2 F2 N2 l2 hT2 hP2 hS2
  k_lt l2
  have heq : rs1 = rs2 := sorted_unique (key := tkey) (fun x hx y hy e => tkey_inj (hG' x (hP1.mem_iff.mp hx)) (hG' y (hP1.mem_iff.mp hy)) e) ((hP1.trans hP).trans hP2.symm) hS1 hS2
  subst heq
  refine ne_pairs (news := tl) (kst_newsOf N2 fun p hp => .tail _ (.tail _ (.tail _ (.tail _ (.tail _ (.tail _ (.tail _ (.tail _ hp)))))))) (kso_isList (its := vs1.toArray) N2 (.tail _ (.head _)) rfl) (kso_isList (its := vs2.toArray) N2 (.head _) rfl) hT1 hT2 (by first | units_room | exact Nat.le_of_ble_eq_true rfl) ?_
  repeat' (first | (with_reducible exact hQ _ _ _ (by with_reducible assumption) (kst_newsOf (by with_reducible assumption) (fun p hp => List.Mem.tail _ (.tail _ hp)))) | (k_unfold; (try dsimp only)) | (k_end; wrow_close) | (dsimp only; walk1) | walk1 | (leave1; walk_say "STEP leave1"; try dsimp only) | fail "no step")
end Mine
namespace Mine
/- the second made pair lies within the first -/
def wit (r q : RR) : Bool := decide (r.1 ≤ q.1) && decide (r.2 / 2 ^ (32 - r.1).toNat = q.2 / 2 ^ (32 - r.1).toNat)
theorem pow_pos' (k : Nat) : (0 : Int) < 2 ^ k := by
  have : (0 : Int) < 2 := by decide
  exact Int.pow_pos this
theorem div_cut {P q y : Int} (hP : 0 < P) (h : q * P / P = y / P) : q * P ≤ y := by
  rw [Int.mul_ediv_cancel _ (Int.ne_of_gt hP)] at h
  rw [h]
  exact Int.ediv_mul_le y (Int.ne_of_gt hP)
theorem wit_back {r q : RR} (gr : Good r) (gq : Good q) (hk : ckey q ≤ ckey r) (h : wit r q = true) : r = q := by
  obtain ⟨c, hc⟩ := gr.cut
  have hP := pow_pos' (32 - r.1).toNat
  unfold wit at h
  rw [Bool.and_eq_true, decide_eq_true_eq, decide_eq_true_eq] at h
  obtain ⟨h1, h2⟩ := h
  generalize (2 : Int) ^ (32 - r.1).toNat = P at hc hP h2
  rw [hc] at h2
  have h3 := div_cut hP h2
  rw [← hc] at h3
  have a1 := gr.lo
  have a2 := gr.hi
  have b1 := gq.lo
  have b2 := gq.hi
  unfold ckey at hk
  exact Prod.ext (by omega) (by omega)
theorem wit_between {r p q : RR} (gr : Good r) (gp : Good p) (gq : Good q) (h1 : ckey r ≤ ckey p) (h2 : ckey p ≤ ckey q) (h : wit r q = true) : wit r p = true := by
  have a1 := gr.lo
  have a2 := gr.hi
  have b1 := gq.lo
  have b2 := gq.hi
  have c1 := gp.lo
  have c2 := gp.hi
  unfold ckey at h1 h2
  have n1 : r.2 ≤ p.2 := by omega
  have n2 : p.2 ≤ q.2 := by omega
  obtain ⟨c, hc⟩ := gr.cut
  obtain ⟨d, hd⟩ := gp.cut
  have hP := pow_pos' (32 - r.1).toNat
  unfold wit at h ⊢
  rw [Bool.and_eq_true, decide_eq_true_eq, decide_eq_true_eq] at h ⊢
  obtain ⟨h3, h4⟩ := h
  have q1 := Int.ediv_le_ediv hP n1
  have q2 := Int.ediv_le_ediv hP n2
  have e : r.2 / 2 ^ (32 - r.1).toNat = p.2 / 2 ^ (32 - r.1).toNat := by omega
  refine ⟨?_, e⟩
  by_cases hm : r.1 ≤ p.1
  · exact hm
  · exfalso
    obtain ⟨k, hk⟩ : ∃ k : Nat, (32 - p.1).toNat = (32 - r.1).toNat + k := ⟨(32 - p.1).toNat - (32 - r.1).toNat, by omega⟩
    rw [hk, Int.pow_add] at hd
    generalize (2 : Int) ^ (32 - r.1).toNat = P at hc hP hd e
    have hd' : p.2 = (d * 2 ^ k) * P := by rw [hd, Int.mul_assoc, Int.mul_comm P]
    have z1 : r.2 ≤ p.2 := n1
    have z2 : p.2 ≤ r.2 := by
      rw [hd']
      exact div_cut hP (by rw [← hd']; exact e.symm)
    omega
theorem flags_take : ∀ bs : List Bool, (∀ a b, a ≤ b → bs.getD b false = true → bs.getD a false = true) → bs.take (bs.filter id).length = List.replicate (bs.filter id).length true
  | [], _ => rfl
  | true :: t, h => by
    have ih := flags_take t fun a b hab hb => by simpa using h (a + 1) (b + 1) (Nat.succ_le_succ hab) (by simpa using hb)
    simp only [List.filter_cons, id, if_true, List.length_cons, List.take_succ_cons, List.replicate_succ]
    rw [ih]
  | false :: t, h => by
    have none : List.filter id (false :: t) = [] := by
      rw [List.filter_eq_nil_iff]
      intro x hx hxt
      obtain ⟨b, hb, e⟩ := List.mem_iff_getElem.mp hx
      have := h 0 b (Nat.zero_le _) (by rw [List.getD_eq_getElem?_getD, List.getElem?_eq_getElem hb, e]; exact hxt)
      simp at this
    rw [none]
    rfl
def flags (rs : List RR) (i : Nat) : List Bool := (rs.drop (i + 1)).map (wit (rs.getD i (0, 0)))
theorem getD_good {rs : List RR} (g : ∀ r ∈ rs, Good r) {i : Nat} (hi : i < rs.length) : Good (rs.getD i (0, 0)) := by
  rw [List.getD_eq_getElem?_getD, List.getElem?_eq_getElem hi]
  exact g _ (List.getElem_mem hi)
theorem flags_at {rs : List RR} {i a : Nat} (ha : i + 1 + a < rs.length) : (flags rs i).getD a false = wit (rs.getD i (0, 0)) (rs.getD (i + 1 + a) (0, 0)) := by
  unfold flags
  simp [List.getD_eq_getElem?_getD, List.getElem?_drop, List.getElem?_eq_getElem ha]
theorem flags_len (rs : List RR) (i : Nat) : (flags rs i).length = rs.length - (i + 1) := by
  unfold flags
  simp
theorem flags_front {rs : List RR} (g : ∀ r ∈ rs, Good r) (hs : byKey ckey rs) {i : Nat} (hi : i < rs.length) : (flags rs i).take ((flags rs i).filter id).length = List.replicate ((flags rs i).filter id).length true := by
  refine flags_take _ fun a b hab hb => ?_
  by_cases hl : i + 1 + b < rs.length
  · rw [flags_at hl] at hb
    rw [flags_at (by omega)]
    exact wit_between (getD_good g hi) (getD_good g (by omega)) (getD_good g hl) (hs _ _ (by omega) (by omega)) (hs _ _ (by omega) hl) hb
  · rw [List.getD_eq_getElem?_getD, List.getElem?_eq_none (by rw [flags_len]; omega)] at hb
    simp at hb
theorem wit_before {rs : List RR} (g : ∀ r ∈ rs, Good r) (hs : byKey ckey rs) {i j : Nat} (hi : i < rs.length) (hj : j < i) (h : wit (rs.getD i (0, 0)) (rs.getD j (0, 0)) = true) : rs.getD i (0, 0) = rs.getD j (0, 0) :=
  wit_back (getD_good g hi) (getD_good g (by omega)) (hs _ _ (by omega) hi) h
end Mine
namespace Mine
local macro_rules | `(tactic| walk_at "binaryOp Pow int int") => `(tactic| ((with_reducible refine pow_int_small ?kb1 ?kb2 ?kb3 ?_); (case kb1 => omega); (case kb2 => omega); (case kb3 => decide)))
theorem wit_yes {r q : RR} (h : r.1 ≤ q.1) : (r.2.fdiv (2 ^ (32 - r.1).toNat) == q.2.fdiv (2 ^ (32 - r.1).toNat)) = wit r q := by
  have hP := Int.le_of_lt (pow_pos' (32 - r.1).toNat)
  unfold wit
  rw [Int.fdiv_eq_ediv_of_nonneg _ hP, Int.fdiv_eq_ediv_of_nonneg _ hP, decide_eq_true h, Bool.true_and]
  rfl
theorem wit_no {r q : RR} (h : ¬ r.1 ≤ q.1) : decide (r.1 ≤ q.1) = wit r q := by
  unfold wit
  rw [decide_eq_false h, Bool.false_and]
theorem wit_call {w : World} {s₀ : Shared} {mg mb : Str → Option Value} {h₀ : Heap} {nms : List (Str × NameKind)} {more : List (Str × Const)} {L fa : Addr} {cdv : Value} {m : Str → Option Value}
    {news : List (Addr × Obj)} {s : Shared} {u v : Value} {r q : RR} {Q : Value → Shared → Prop} {E : Value → Shared → Prop} :
    (PySem.Challenge.rw_br0003_01.Holds → True) → (hd.heap_39 w.params).In h₀ → TopL s₀ mg mb h₀ → Below callerA h₀ [] h₀ →
    Fr h₀ L s.heap m → News h₀ L s.heap news → PairIn news u r → PairIn news v q → Good r → Good q →
    (∀ h' tk, Fr h₀ L h' m → News h₀ L h' news → Q (.bool (wit r q)) { s with heap := h', toks := tk }) →
    wpAny (model PG w) (callerA.deeper (lenv nms more L fa cdv)) (call (.ref 157) [u, v]) Q E s := by
  w_top off
  k_fill
  rintro _ KX T K0 F N ⟨a, t1, t2, rfl, ha⟩ ⟨b', t3, t4, rfl, hb⟩ gr gq hQ
  have g1 := gr.lo
  have g2 := gr.hi
  have N2 : News h₀ L s.heap ((a, pairObj (.int r.1 t1) (.int r.2 t2)) :: (b', pairObj (.int q.1 t3) (.int q.2 t4)) :: news) := kst_newsOf N (by
    intro p hp
    rcases List.mem_cons.mp hp with rfl | hp
    · exact ha
    rcases List.mem_cons.mp hp with rfl | hp
    · exact hb
    exact hp)
  clear N
  have hpos := pow_pos' (32 - r.1).toNat
  have hQ' : ∀ b h' tk, Fr h₀ L h' m → News h₀ L h' ((a, pairObj (.int r.1 t1) (.int r.2 t2)) :: (b', pairObj (.int q.1 t3) (.int q.2 t4)) :: news) → b = wit r q → Q (.bool b) { s with heap := h', toks := tk } :=
    fun b h' tk F' N' e => e ▸ hQ h' tk F' (kst_newsOf N' fun p hp => .tail _ (.tail _ hp))
  clear hQ
  repeat' (first | ((with_reducible refine hQ' _ _ _ (by assumption) (by assumption) ?_); (first | exact wit_yes (by assumption) | exact wit_no (by assumption))) | (k_unfold; (try dsimp only)) | (k_end; wrow_close) | (dsimp only; walk1) | walk1 | (leave1; walk_say "STEP leave1"; try dsimp only) | fail "no step")
end Mine
namespace Mine
open LCg LCt LSm
section
variable {prog : Program} {w : World} {A : Around} {E : Value → Shared → Prop} {s : Shared} {h₀ : Heap} {L l : Addr} {m : Str → Option Value} {news : List (Addr × Obj)} {env : Env}
/- what one item of a list comprehension leaves -/
def YEnd (h₀ : Heap) (L : Addr) (m : Str → Option Value) (s : Shared) (ns : List (Addr × Obj)) (P : Value → Prop) (y : Value) (s' : Shared) : Prop :=
  ∃ h' tk, s' = { s with heap := h', toks := tk } ∧ Fr h₀ L h' m ∧ News h₀ L h' ns ∧ P y
theorem YEnd.intro {h' : Heap} {tk : Nat} {ns : List (Addr × Obj)} {P : Value → Prop} {y : Value} (F : Fr h₀ L h' m) (N : News h₀ L h' ns) (hp : P y) : YEnd h₀ L m s ns P y { s with heap := h', toks := tk } := ⟨h', tk, rfl, F, N, hp⟩
theorem YEnd.fin {s₁ : Shared} {I C D : Addr} {oI oC oD : Obj} {S : List (Addr × Obj) → Prop} {R : Value → List (Addr × Obj) → Prop} {P : Value → Prop} {y : Value} {h : Heap} {tk : Nat} (off : Off3 I C D news) (hS : S news) (hR : P y → R y news)
    (hY : YEnd h₀ L m s ((I, oI) :: (C, oC) :: (D, oD) :: news) P y s₁) : CompEnd h₀ L m { s with heap := h, toks := tk } I oI C oC D oD S R y s₁ := by
  obtain ⟨h', tk', rfl, F, N, hp⟩ := hY
  exact ⟨h', tk', news, rfl, F, N, off, hS, hR hp⟩
theorem compRest_run {elt : PySem.Expr} {x : Str} {scope : Scope} {cl : List (Str × Addr)} {S : List (Addr × Obj) → Prop} {P : Nat → Value → Prop} {Fin : List Value → List (Addr × Obj) → Prop} {Y : Nat → Value → Prop} {n : Nat} (hS : S news)
    (turn : ∀ i, i < n → ∀ v I oI C oC D oD m₂ h tk (E' : Value → Shared → Prop), P i v → NsObj oC m₂ → m₂ x = some v → Fr h₀ L h m → News h₀ L h ((I, oI) :: (C, oC) :: (D, oD) :: news) →
      wpAny (model prog w) A (eval elt (compEnvC scope cl C env)) (YEnd h₀ L m s ((I, oI) :: (C, oC) :: (D, oD) :: news) (Y i)) E' { s with heap := h, toks := tk })
    (fin : ∀ ys : List Value, ys.length = n → (∀ i y, ys[i]? = some y → Y i y) → Fin ys news) :
    CompRest prog w A h₀ L m env elt x scope cl s S P Fin n 0 [] news := by
  suffices H : ∀ k i (ys : List Value), i + k = n → ys.length = i → (∀ i y, ys[i]? = some y → Y i y) → CompRest prog w A h₀ L m env elt x scope cl s S P Fin k i ys news from
    H n 0 [] (Nat.zero_add _) rfl (fun i y e => by simp at e)
  intro k
  induction k with
  | zero => intro i ys hi hl hy; exact CompRest.zero (fin ys (by omega) hy)
  | succ k ih =>
    intro i ys hi hl hy
    refine CompRest.succ fun v I oI C oC D m₂ h tk E' hP hC hx F N off ne => ?_
    refine wpAny_mono (turn i (by omega) v I oI C oC D _ m₂ h tk E' hP hC hx F N) (fun y s₁ h₁ => ?_) fun _ _ e => e
    refine YEnd.fin off hS (fun hp => ih (i + 1) (ys ++ [y]) (by omega) (by simp [hl]) fun j z hz => ?_) h₁
    rcases Nat.lt_or_ge j ys.length with hj | hj
    · rw [List.getElem?_append_left hj] at hz
      exact hy j z hz
    · rw [List.getElem?_append_right hj] at hz
      have : j = ys.length := by
        rcases Nat.eq_or_lt_of_le hj with e | e
        · exact e.symm
        · rw [List.getElem?_eq_none (by simp; omega)] at hz; cases hz
      subst this
      rw [Nat.sub_self] at hz
      cases hz
      rw [hl]
      exact hp
theorem compRestT_run {ct elt : PySem.Expr} {x : Str} {scope : Scope} {cl : List (Str × Addr)} {S : List (Addr × Obj) → Prop} {P : Nat → Value → Prop} {Fin : List Value → List (Addr × Obj) → Prop} {bs : List Bool} (hS : S news)
    (turn : ∀ i, i < bs.length → ∀ v I oI C oC D oD m₂ h tk (E' : Value → Shared → Prop), P i v → NsObj oC m₂ → m₂ x = some v → Fr h₀ L h m → News h₀ L h ((I, oI) :: (C, oC) :: (D, oD) :: news) →
      wpAny (model prog w) A (isTrue ct (compEnvC scope cl C env) (eval ct (compEnvC scope cl C env))) (fun ok s' => if ok = true then
        wpAny (model prog w) A (eval elt (compEnvC scope cl C env)) (YEnd h₀ L m s ((I, oI) :: (C, oC) :: (D, oD) :: news) (fun _ => bs[i]? = some true)) E' s'
        else YEnd h₀ L m s ((I, oI) :: (C, oC) :: (D, oD) :: news) (fun _ => bs[i]? = some false) Value.none s') E' { s with heap := h, toks := tk })
    (fin : ∀ ys : List Value, ys.length = (bs.filter id).length → Fin ys news) :
    CompRestT prog w A h₀ L m env ct elt x scope cl s S P Fin bs.length 0 [] news := by
  suffices H : ∀ k i (ys : List Value), i + k = bs.length → ys.length = ((bs.take i).filter id).length → CompRestT prog w A h₀ L m env ct elt x scope cl s S P Fin k i ys news from
    H bs.length 0 [] (Nat.zero_add _) rfl
  intro k
  induction k with
  | zero => intro i ys hi hl; refine CompRestT.zero (fin ys ?_); rw [hl, List.take_of_length_le (by omega)]
  | succ k ih =>
    intro i ys hi hl
    refine CompRestT.succ fun v I oI C oC D m₂ h tk E' hP hC hx F N off ne => ?_
    refine wpAny_mono (turn i (by omega) v I oI C oC D _ m₂ h tk E' hP hC hx F N) (fun ok s₁ h₁ => ?_) fun _ _ e => e
    cases ok with
    | true =>
      simp only [if_true] at h₁ ⊢
      refine wpAny_mono h₁ (fun y s₂ h₂ => ?_) fun _ _ e => e
      refine YEnd.fin off hS (fun hp => ih (i + 1) (ys ++ [y]) (by omega) ?_) h₂
      rw [List.take_succ, hp]
      simp [hl]
    | false =>
      simp only [Bool.false_eq_true, if_false] at h₁ ⊢
      refine YEnd.fin off hS (fun hp => ih (i + 1) ys (by omega) ?_) h₁
      rw [List.take_succ, hp]
      simp [hl]

/- rows of truth values -/
theorem bools_read {h : Heap} : ∀ {vs : List Value} {bs : List Bool}, BoolsAre vs bs → ∃ as, ReadsAll h vs (bs.map PyData.bool) as
  | _, _, .nil => ⟨_, .nil⟩
  | _, _, .cons b hb => by
    obtain ⟨as, h2⟩ := bools_read (h := h) hb
    exact ⟨_, .cons (.bool b) h2⟩
theorem bools_shaped (bs : List Bool) : SeqAt.shaped (.list (bs.map PyData.bool)) = true := by
  have h1 : ∀ bs : List Bool, PyData.canLayAll0 (bs.map PyData.bool) = true := by
    intro rs
    induction rs with
    | nil => rfl
    | cons r rs ih => simp [PyData.canLayAll0, PyData.canLay0, ih]
  have h2 : ∀ bs : List Bool, PyData.depthAll (bs.map PyData.bool) = 0 := by
    intro rs
    induction rs with
    | nil => simp [PyData.depthAll]
    | cons r rs ih => simp [PyData.depthAll, PyData.depth, ih]
  simp [SeqAt.shaped, PyData.canLay0, PyData.depth, h1, h2]
theorem bools_eqv : ∀ bs : List Bool, PyData.eqvAll (bs.map PyData.bool) (bs.map PyData.bool) = true
  | [] => rfl
  | r :: rs => by simp [PyData.eqvAll, PyData.eqv, bools_eqv rs]
theorem ne_bools {x y : Addr} {vs us : List Value} {bs : List Bool} {Q : Value → Shared → Prop} (hx : s.heap.IsList x vs.toArray) (hy : s.heap.IsList y us.toArray) (h1 : BoolsAre vs bs) (h2 : BoolsAre us bs) (hu : A.units + 64 < cLine)
    (h : Q (.bool false) s) : wpAny (model prog w) A (compareOp .NotEq (.ref x) (.ref y)) Q E s := by
  obtain ⟨as, a1⟩ := bools_read (h := s.heap) h1
  obtain ⟨cs, a2⟩ := bools_read (h := s.heap) h2
  obtain ⟨ox, b1, b2, n1, b3⟩ := hx
  obtain ⟨oy, c1, c2, n2, c3⟩ := hy
  refine ne_dataH (reads_list_at b1 b2 b3 a1) (reads_list_at c1 c2 c3 a2) (bools_shaped bs) (bools_shaped bs) hu ?_
  show Q (.bool (!PyData.eqvAll (bs.map PyData.bool) (bs.map PyData.bool))) s
  rw [bools_eqv]
  exact h
theorem bools_of : ∀ (bs : List Bool), BoolsAre (bs.map Value.bool) bs
  | [] => .nil
  | b :: bs => .cons b (bools_of bs)
theorem bools_map {vs : List Value} {bs : List Bool} (h : BoolsAre vs bs) : vs = bs.map Value.bool := by
  induction h with
  | nil => rfl
  | cons b _ ih => rw [List.map_cons, ← ih]
end
end Mine
namespace Mine
/- a for over a range whose target is a cell, and whose turns leave the ledger as it was -/
section
variable {prog : Program} {w : World} {A : Around} {E : Value → Shared → Prop} {s : Shared} {env : Env} {h₀ : Heap} {x : Str} {px : Pos} {body : List Stmt} {Q : Flow → Shared → Prop}
def TurnC (h₀ : Heap) (L ci I : Addr) (oI : Obj) (news : List (Addr × Obj)) (s : Shared) (Q : Flow → Shared → Prop) (f : Flow) (s' : Shared) : Prop := match f with
  | .ret v => Q (.ret v) s'
  | .brk => Q .next s'
  | _ => ∃ h' tk m' oi v, s' = { s with heap := h', toks := tk } ∧ Fr h₀ L h' m' ∧ News h₀ L h' ((ci, oi) :: (I, oI) :: news) ∧ oi.data = .cell v
def LoopC (prog : Program) (w : World) (A : Around) (env : Env) (x : Str) (px : Pos) (body : List Stmt) (Q : Flow → Shared → Prop) (E : Value → Shared → Prop) (it : Value) (s : Shared) : Prop :=
  codeAny (model prog w) A (.forLoop (.Name x px) it body [] env) (fun r s' => match r with | .ok f => Q f s' | .error e => cameBackBy (model prog w) A env E e s') s
theorem For_C {iter : PySem.Expr} {pos : Pos} (h : wpAny (model prog w) A (eval iter env) (fun xv s₁ => wpAny (model prog w) A (pyIter xv) (LoopC prog w A env x px body Q E) E s₁) E s)
    (hs : ∀ x, foldedSetIterable iter env x = pure x := by intro _; rfl) : wpAny (model prog w) A (exec (.For (.Name x px) iter body [] pos) env) Q E s :=
  wpAny_For h hs
theorem loopC_range {r ci : Addr} {b₀ : Int} {t₀ u₀ v₀ : Tok} {n : Nat} {m : Str → Option Value} {news : List (Addr × Obj)} {oi : Obj} {v₁ : Option Value}
    (hh : A.handled = none) (hr : IsRange s.heap r 0 b₀ 1 t₀ u₀ v₀) (hsmall : Builtin.Range.small 0 b₀ 1 = true) (hn : Builtin.Range.rangeSize 0 b₀ 1 = (n : Int))
    (hk : env.scope.kind = .function) (hx : env.kindOf x = some .cell) (hc : env.cells.lookup x = some ci) (hE : PassesOwn (model prog w) A env E)
    (F : Fr h₀ env.locals s.heap m) (N : News h₀ env.locals s.heap ((ci, oi) :: news)) (hd : oi.data = .cell v₁) (hoff : ∀ p ∈ news, p.1 ≠ ci)
    (turn : ∀ (i : Nat) m' h tk t oi oI, i < n → oi.data = .cell (some (.int (i : Int) t)) → Fr h₀ env.locals h m' → News h₀ env.locals h ((ci, oi) :: (s.heap.objs.size, oI) :: news) →
      wpAny (model prog w) A (execs body env) (TurnC h₀ env.locals ci s.heap.objs.size oI news s Q) E { s with heap := h, toks := tk })
    (done : ∀ m' h tk oi v, Fr h₀ env.locals h m' → News h₀ env.locals h ((ci, oi) :: news) → oi.data = .cell v → Q .next { s with heap := h, toks := tk }) :
    wpAny (model prog w) A (pyIter (.ref r)) (LoopC prog w A env x px body Q E) E s := by
  refine wpAny_pyIter_range hr hsmall ?_
  generalize hI : s.heap.objs.size = I at turn ⊢
  have W := Walks.range (prog := prog) (w := w) (A := A) hh I 0 1 n
  have hIL : I ≠ env.locals := fun q => absurd F.ns.lt (by rw [← q, hI]; exact Nat.lt_irrefl _)
  have hI0 : h₀.get? I = none := by rw [← hI]; exact next_is_new F
  have hIn : ∀ p ∈ (ci, oi) :: news, p.1 ≠ I := fun p hp q => absurd (Heap.lt_size (N p hp).1) (by rw [q, hI]; exact Nat.lt_irrefl _)
  have hci := N (ci, oi) (.head _)
  have hcI : ci ≠ I := hIn (ci, oi) (.head _)
  unfold LoopC
  refine codeAny_forLoop
    (fun k s' => ∃ h' tk m' oi v i, s' = { s with heap := h', toks := tk } ∧ IsRangeIter h' I (0 + (i : Nat) * 1) ((n : Int) - (i : Nat)) 1 ∧ Fr h₀ env.locals h' m' ∧ News h₀ env.locals h' ((ci, oi) :: news) ∧ oi.data = .cell v ∧ i ≤ n ∧ k = n + 1 - i) ?_ (n + 1)
    ⟨_, s.toks, m, oi, v₁, 0, rfl, ?_, F.push _, (fun p hp => ⟨Heap.get?_push_of_some _ (N p hp).1, (N p hp).2⟩), hd, Nat.zero_le _, rfl⟩
  · rintro k s' ⟨h', tk, m', oi', v', i, rfl, hst, F', N', hd', hi, rfl⟩
    have next : ∀ h₁ : Heap, (∀ b o, b ∉ [I] → h'.get? b = some o → h₁.get? b = some o) → Fr h₀ env.locals h₁ m' ∧ News h₀ env.locals h₁ ((ci, oi') :: news) := by
      intro h₁ hk₁
      refine ⟨⟨F'.ns.at' fun o e => hk₁ _ o (fun q => hIL (List.mem_singleton.mp q).symm) e, fun b o e => hk₁ b o (fun q => ?_) (F'.keep b o e), F'.above⟩, fun p hp => ⟨hk₁ _ _ (fun q => ?_) (N' p hp).1, (N' p hp).2⟩⟩
      · rw [List.mem_singleton.mp q, hI0] at e; cases e
      · rcases List.mem_cons.mp hp with rfl | hp
        · exact hcI (List.mem_singleton.mp q)
        · exact hIn p (.tail _ hp) (List.mem_singleton.mp q)
    by_cases hlt : i < n
    · refine W.item i _ _ _ hlt hst fun v h₁ tk₁ hP hst₁ hk₁ => ?_
      obtain ⟨t, rfl⟩ := hP
      obtain ⟨F₁, N₁⟩ := next h₁ hk₁
      have hc₁ := N₁ (ci, oi') (.head _)
      refine wpAny_assign_Name (wpAny_storeName_cell hk hx hc ⟨oi', hc₁.1, hd'⟩ fun h₂ hcell hs₂ => ?_)
      obtain ⟨o₂, ho₂, hd₂⟩ := hcell
      have F₂ : Fr h₀ env.locals h₂ m' := kas_fr F₁ hs₂ hc₁.2.1 hc₁.2.2
      have hst₂ : h₂.get? I = h₁.get? I := hs₂.2 I (Ne.symm hcI)
      have N₂ : News h₀ env.locals h₂ ((ci, o₂) :: (I, { cls := .type "range_iterator", dict := none, data := .fields #[rawInt (0 + ((i+1:Nat):Int)*1), rawInt ((n:Int) - ((i+1:Nat):Int)), rawInt 1], slots := #[] }) :: news) := by
        intro p hp
        rcases List.mem_cons.mp hp with rfl | hp
        · exact ⟨ho₂, hc₁.2⟩
        rcases List.mem_cons.mp hp with rfl | hp
        · exact ⟨hst₂.trans hst₁, hIL, hI0⟩
        · exact ⟨(hs₂.2 _ (hoff p hp)).trans (N₁ p (.tail _ hp)).1, (N₁ p (.tail _ hp)).2⟩
      have e0 : (0 : Int) + (i : Int) * 1 = (i : Int) := by omega
      rw [e0] at hd₂
      refine wpAny_passesOwn hE (wpAny_mono (turn i m' h₂ _ t o₂ _ hlt hd₂ F₂ N₂) (fun f s₃ h₃ => ?_) fun _ _ e => e)
      have fin : (∃ h' tk m' oi v, s₃ = { s with heap := h', toks := tk } ∧ Fr h₀ env.locals h' m' ∧ News h₀ env.locals h' ((ci, oi) :: (I, { cls := .type "range_iterator", dict := none, data := .fields #[rawInt (0 + ((i+1:Nat):Int)*1), rawInt ((n:Int) - ((i+1:Nat):Int)), rawInt 1], slots := #[] }) :: news) ∧ oi.data = .cell v) →
          ∃ m, m < n + 1 - i ∧ ∃ h' tk m' oi v i, s₃ = { s with heap := h', toks := tk } ∧ IsRangeIter h' I (0 + (i : Nat) * 1) ((n : Int) - (i : Nat)) 1 ∧ Fr h₀ env.locals h' m' ∧ News h₀ env.locals h' ((ci, oi) :: news) ∧ oi.data = .cell v ∧ i ≤ n ∧ m = n + 1 - i := by
        rintro ⟨h₄, tk₄, m₄, oi₄, v₄, rfl, F₄, N₄, hd₄⟩
        exact ⟨n + 1 - (i + 1), by omega, h₄, tk₄, m₄, oi₄, v₄, i + 1, rfl, (N₄ _ (.tail _ (.head _))).1, F₄, fun p hp => N₄ p ((List.mem_cons.mp hp).elim (fun e => e ▸ .head _) fun hp => .tail _ (.tail _ hp)), hd₄, hlt, rfl⟩
      cases f with
      | ret v => exact h₃
      | brk => exact h₃
      | next => exact fin h₃
      | cont => exact fin h₃
    · have hin : i = n := by omega
      subst hin
      refine W.done _ _ _ hst fun h₁ tk₁ hk₁ => wpAny_execs_nil ?_
      obtain ⟨F₁, N₁⟩ := next h₁ hk₁
      exact done m' h₁ tk₁ oi' v' F₁ N₁ hd'
  · show IsRangeIter (s.heap.push _) I _ _ _
    rw [hn, ← hI]
    simpa using Heap.get?_push_size s.heap (o := { cls := .type "range_iterator", data := .fields #[rawInt 0, rawInt (n : Int), rawInt 1] }) rfl
end
end Mine
namespace Mine
/- a for over a range whose target is a local, and whose turns leave the ledger as it was -/
section
variable {prog : Program} {w : World} {A : Around} {E : Value → Shared → Prop} {s : Shared} {env : Env} {h₀ : Heap} {x : Str} {px : Pos} {body : List Stmt} {Q : Flow → Shared → Prop}
def TurnL (h₀ : Heap) (L I : Addr) (oI : Obj) (news : List (Addr × Obj)) (K : (Str → Option Value) → Prop) (s : Shared) (Q : Flow → Shared → Prop) (f : Flow) (s' : Shared) : Prop := match f with
  | .ret v => Q (.ret v) s'
  | .brk => Q .next s'
  | _ => ∃ h' tk m', s' = { s with heap := h', toks := tk } ∧ Fr h₀ L h' m' ∧ News h₀ L h' ((I, oI) :: news) ∧ K m'
theorem loopL_range {r : Addr} {b₀ : Int} {t₀ u₀ v₀ : Tok} {n : Nat} {m : Str → Option Value} {news : List (Addr × Obj)} {K : (Str → Option Value) → Prop}
    (hh : A.handled = none) (hr : IsRange s.heap r 0 b₀ 1 t₀ u₀ v₀) (hsmall : Builtin.Range.small 0 b₀ 1 = true) (hn : Builtin.Range.rangeSize 0 b₀ 1 = (n : Int))
    (hk : env.scope.kind = .function) (hx : env.kindOf x = some .local) (hE : PassesOwn (model prog w) A env E)
    (F : Fr h₀ env.locals s.heap m) (N : News h₀ env.locals s.heap news) (hK : K m)
    (turn : ∀ (i : Nat) m' h tk t oI, i < n → K m' → Fr h₀ env.locals h (fun y => if y = x then some (.int (i : Int) t) else m' y) → News h₀ env.locals h ((s.heap.objs.size, oI) :: news) →
      wpAny (model prog w) A (execs body env) (TurnL h₀ env.locals s.heap.objs.size oI news K s Q) E { s with heap := h, toks := tk })
    (done : ∀ m' h tk, Fr h₀ env.locals h m' → News h₀ env.locals h news → K m' → Q .next { s with heap := h, toks := tk }) :
    wpAny (model prog w) A (pyIter (.ref r)) (LoopC prog w A env x px body Q E) E s := by
  refine wpAny_pyIter_range hr hsmall ?_
  generalize hI : s.heap.objs.size = I at turn ⊢
  have W := Walks.range (prog := prog) (w := w) (A := A) hh I 0 1 n
  have hIL : I ≠ env.locals := fun q => absurd F.ns.lt (by rw [← q, hI]; exact Nat.lt_irrefl _)
  have hI0 : h₀.get? I = none := by rw [← hI]; exact next_is_new F
  have hL0 : h₀.get? env.locals = none := Heap.get?_none_of_le F.above
  have hIn : ∀ p ∈ news, p.1 ≠ I := fun p hp q => absurd (Heap.lt_size (N p hp).1) (by rw [q, hI]; exact Nat.lt_irrefl _)
  unfold LoopC
  refine codeAny_forLoop
    (fun k s' => ∃ h' tk m' i, s' = { s with heap := h', toks := tk } ∧ IsRangeIter h' I (0 + (i : Nat) * 1) ((n : Int) - (i : Nat)) 1 ∧ Fr h₀ env.locals h' m' ∧ News h₀ env.locals h' news ∧ K m' ∧ i ≤ n ∧ k = n + 1 - i) ?_ (n + 1)
    ⟨_, s.toks, m, 0, rfl, ?_, F.push _, (fun p hp => ⟨Heap.get?_push_of_some _ (N p hp).1, (N p hp).2⟩), hK, Nat.zero_le _, rfl⟩
  · rintro k s' ⟨h', tk, m', i, rfl, hst, F', N', hK', hi, rfl⟩
    have next : ∀ h₁ : Heap, (∀ b o, b ∉ [I] → h'.get? b = some o → h₁.get? b = some o) → Fr h₀ env.locals h₁ m' ∧ News h₀ env.locals h₁ news := by
      intro h₁ hk₁
      refine ⟨⟨F'.ns.at' fun o e => hk₁ _ o (fun q => hIL (List.mem_singleton.mp q).symm) e, fun b o e => hk₁ b o (fun q => ?_) (F'.keep b o e), F'.above⟩, fun p hp => ⟨hk₁ _ _ (fun q => ?_) (N' p hp).1, (N' p hp).2⟩⟩
      · rw [List.mem_singleton.mp q, hI0] at e; cases e
      · exact hIn p hp (List.mem_singleton.mp q)
    by_cases hlt : i < n
    · refine W.item i _ _ _ hlt hst fun v h₁ tk₁ hP hst₁ hk₁ => ?_
      obtain ⟨t, rfl⟩ := hP
      obtain ⟨F₁, N₁⟩ := next h₁ hk₁
      refine wpAny_assign_Name (wpAny_storeName_local hx F₁.ns (fun h₂ hn₂ hs₂ => ?_) (by show (env.scope.kind == .class || (env.scope.kind == .module && env.locals != env.globals)) = false; rw [hk]; rfl))
      have F₂ : Fr h₀ env.locals h₂ (fun y => if y = x then some (.int (0 + (i : Int) * 1) t) else m' y) := ⟨hn₂, fun b o e => hs₂.extBut b o (fun q => by rw [q, hL0] at e; cases e) (F₁.keep b o e), F₁.above⟩
      have N₂ : News h₀ env.locals h₂ ((I, { cls := .type "range_iterator", dict := none, data := .fields #[rawInt (0 + ((i+1:Nat):Int)*1), rawInt ((n:Int) - ((i+1:Nat):Int)), rawInt 1], slots := #[] }) :: news) := by
        intro p hp
        rcases List.mem_cons.mp hp with rfl | hp
        · exact ⟨hs₂.extBut _ _ hIL hst₁, hIL, hI0⟩
        · exact ⟨hs₂.extBut _ _ (N₁ p hp).2.1 (N₁ p hp).1, (N₁ p hp).2⟩
      have e0 : (0 : Int) + (i : Int) * 1 = (i : Int) := by omega
      rw [e0] at F₂
      refine wpAny_passesOwn hE (wpAny_mono (turn i m' h₂ _ t _ hlt hK' F₂ N₂) (fun f s₃ h₃ => ?_) fun _ _ e => e)
      have fin : (∃ h' tk m', s₃ = { s with heap := h', toks := tk } ∧ Fr h₀ env.locals h' m' ∧ News h₀ env.locals h' ((I, { cls := .type "range_iterator", dict := none, data := .fields #[rawInt (0 + ((i+1:Nat):Int)*1), rawInt ((n:Int) - ((i+1:Nat):Int)), rawInt 1], slots := #[] }) :: news) ∧ K m') →
          ∃ m, m < n + 1 - i ∧ ∃ h' tk m' i, s₃ = { s with heap := h', toks := tk } ∧ IsRangeIter h' I (0 + (i : Nat) * 1) ((n : Int) - (i : Nat)) 1 ∧ Fr h₀ env.locals h' m' ∧ News h₀ env.locals h' news ∧ K m' ∧ i ≤ n ∧ m = n + 1 - i := by
        rintro ⟨h₄, tk₄, m₄, rfl, F₄, N₄, hd₄⟩
        exact ⟨n + 1 - (i + 1), by omega, h₄, tk₄, m₄, i + 1, rfl, (N₄ _ (.head _)).1, F₄, fun p hp => N₄ p (.tail _ hp), hd₄, hlt, rfl⟩
      cases f with
      | ret v => exact h₃
      | brk => exact h₃
      | next => exact fin h₃
      | cont => exact fin h₃
    · have hin : i = n := by omega
      subst hin
      refine W.done _ _ _ hst fun h₁ tk₁ hk₁ => wpAny_execs_nil ?_
      obtain ⟨F₁, N₁⟩ := next h₁ hk₁
      exact done m' h₁ tk₁ F₁ N₁ hK'
  · show IsRangeIter (s.heap.push _) I _ _ _
    rw [hn, ← hI]
    simpa using Heap.get?_push_size s.heap (o := { cls := .type "range_iterator", data := .fields #[rawInt 0, rawInt (n : Int), rawInt 1] }) rfl
theorem range_from_zero {n : Nat} (h : n < 1000) : Builtin.Range.small 0 (n : Int) 1 = true ∧ Builtin.Range.rangeSize 0 (n : Int) 1 = (n : Int) :=
  ⟨small_one (by omega) (by omega) (by omega) (by omega), by rw [rangeSize_nat]; omega⟩
theorem range_from {i n : Nat} (hi : i < n) (h : n < 1000) : Builtin.Range.small ((i : Int) + 1) (n : Int) 1 = true ∧ Builtin.Range.rangeSize ((i : Int) + 1) (n : Int) 1 = ((n - (i + 1) : Nat) : Int) :=
  ⟨small_one (by omega) (by omega) (by omega) (by omega), by rw [rangeSize_nat]; omega⟩
end
end Mine
namespace Mine
def body11 : List Stmt := forBody (hd1 body10)
def body12 : List Stmt := tl1 (tl1 (tl1 body11))
section
variable {prog : Program} {w : World} {A : Around} {E : Value → Shared → Prop} {s : Shared} {h₀ : Heap} {L : Addr} {news : List (Addr × Obj)}
theorem item_at {R : Value → RR → Prop} {value slice : PySem.Expr} {lt : Addr} {vs : List Value} {rs : List RR} {c i : Nat} {t : Tok} {Q : Value → Shared → Prop} (N : News h₀ L s.heap news) (hm : (lt, W.listOf vs.toArray c) ∈ news) (hT : All2 R vs rs) (hi : i < rs.length) (h14 : rs.length ≤ 14)
    (h : ∀ v, R v (rs.getD i (0, 0)) → Q v s)
    (hs : subscripted slice false (.ref lt) (.int (i : Int) t) = operate [.ref lt, .int (i : Int) t] (getItem (.ref lt) (.int (i : Int) t)) := by with_unfolding_all rfl) :
    wpAny (model prog w) A (subscriptTail value slice (.ref lt) (.int (i : Int) t)) Q E s := by
  obtain ⟨v, hv, hr⟩ := hT.get hi
  refine tail_any (PySem.IsL.isList (n := c) (N _ hm).1).typeIs slot_list_getitem.lookup (wpAny_getItem_list (PySem.IsL.isList (n := c) (N _ hm).1) (by omega) (by omega) (by simpa using hv) (h v ?_)) hs
  rw [List.getD_eq_getElem?_getD, List.getElem?_eq_getElem hi]
  exact hr
end
def StopG (P : Prop) : Prop := P
theorem StopG.out {P : Prop} (h : StopG P) : P := h
local macro_rules | `(tactic| walk_at "CompSrc") => `(tactic| (k_here; refine StopG.out ?_))
local macro_rules | `(tactic| walk_at "CompSrcT") => `(tactic| (k_here; refine StopG.out ?_))
theorem flags_values {rs : List RR} {i : Nat} {ys : List Value} (hl : ys.length = rs.length - (i + 1)) (h : ∀ k y, ys[k]? = some y → y = Value.bool (wit (rs.getD i (0, 0)) (rs.getD (i + 1 + k) (0, 0)))) : ys = (flags rs i).map Value.bool := by
  refine List.ext_getElem (by rw [hl, List.length_map, flags_len]) fun k h1 h2 => ?_
  rw [h k ys[k] (List.getElem?_eq_getElem h1), ← flags_at (by omega), List.getElem_map, List.getD_eq_getElem?_getD, List.getElem?_eq_getElem (by simpa using h2)]
  rfl
theorem front_slice {bs : List Bool} {c : Nat} (h : bs.take c = List.replicate c true) : slicePick (bs.map Value.bool).toArray none (some (c : Int)) none = ((List.replicate c true).map Value.bool).toArray := by
  rw [kms_pick_eq, List.toList_toArray]
  have h1 : kms_hi (some (c : Int)) (bs.map Value.bool).length = min c bs.length := by
    unfold kms_hi
    dsimp only
    rw [if_neg (by omega), Int.toNat_natCast, List.length_map]
  unfold kms_pick
  rw [h1]
  show (((bs.map Value.bool).drop 0).take (min c bs.length - 0)).toArray = _
  rw [List.drop_zero, Nat.sub_zero, ← List.map_take, ← h]
  congr 2
  rcases Nat.le_total c bs.length with h2 | h2
  · rw [Nat.min_eq_left h2]
  · rw [Nat.min_eq_right h2, List.take_of_length_le (Nat.le_refl _), List.take_of_length_le h2]
theorem rep_flat (c : Nat) : (List.replicate c [true]).flatten = List.replicate c true := by
  induction c with
  | zero => rfl
  | succ c ih => rw [List.replicate_succ, List.flatten_cons, ih]; rfl
theorem rep_vals (c : Nat) : (List.replicate ((c : Int)).toNat #[Value.bool true].toList).flatten = (List.replicate c true).map Value.bool := by
  rw [Int.toNat_natCast]
  induction c with
  | zero => rfl
  | succ c ih => rw [List.replicate_succ, List.flatten_cons, ih]; rfl
theorem ne_front {prog : Program} {w : World} {A : Around} {E : Value → Shared → Prop} {s : Shared} {x y : Addr} {bs : List Bool} {c : Nat} {Q : Value → Shared → Prop} (hx : s.heap.IsList x (slicePick (bs.map Value.bool).toArray none (some (c : Int)) none)) (hy : s.heap.IsList y (List.replicate ((c : Int)).toNat #[Value.bool true].toList).flatten.toArray)
    (hf : bs.take c = List.replicate c true) (hu : A.units + 64 < cLine) (h : Q (.bool false) s) : wpAny (model prog w) A (compareOp .NotEq (.ref x) (.ref y)) Q E s := by
  rw [front_slice hf] at hx
  rw [rep_vals] at hy
  exact ne_bools hx hy (bools_of _) (bools_of _) hu h
local macro_rules | `(tactic| walk_at "compareOp NotEq ref ref") => `(tactic| (k_here; k_dflt (refine' ne_front ?hx ?hy ?f ?u ?_; (case f => with_reducible assumption); (case hy => first | assumption | exact News.isList (by k_asm) (by k_mem)); (case hx => first | assumption | exact News.isList (by k_asm) (by k_mem)); (case u => first | units_room | exact Nat.le_of_ble_eq_true rfl))))
local macro_rules | `(tactic| walk_at "exec For") => `(tactic| (k_here; k_dflt (refine For_C ?_)))
local macro_rules | `(tactic| walk_at "call builtin:len") => `(tactic| (k_here; (with_reducible show wpAny _ _ (call (Value.builtin _) [Value.ref _]) _ _ _); k_dflt (refine len_named (by k_asm) (by k_mem) (by with_reducible assumption) ?z ?_; (case z => omega))))
local macro_rules | `(tactic| walk_at "call ref") => `(tactic| ((with_reducible show wpAny _ _ (call (Value.ref 157) [_, _]) _ _ _); k_dflt (refine' wit_call ?k1 ?k2 ?k3 ?k4 ?k5 ?k6 ?hu ?hv ?gr ?gq ?_; (case k1 => with_reducible assumption); (case k2 => with_reducible assumption); (case k3 => with_reducible assumption); (case k4 => with_reducible assumption); (case k5 => k_asm); (case k6 => k_asm); (case hu => (first | with_reducible assumption | (refine PairIn.mono ?_ (by with_reducible assumption); (intro p hp; repeat (first | exact hp | refine List.Mem.tail _ ?_))))); (case hv => (first | with_reducible assumption | (refine PairIn.mono ?_ (by with_reducible assumption); (intro p hp; repeat (first | exact hp | refine List.Mem.tail _ ?_))))); (case gr => exact getD_good (by assumption) (by omega)); (case gq => exact getD_good (by assumption) (by omega))); intro h' tk' F' N'))
local macro_rules | `(tactic| walk_at "subscriptTail") => `(tactic| (k_here; (with_reducible show wpAny _ _ (subscriptTail _ _ (Value.ref _) (Value.int _ _)) _ _ _); (refine item_at (by k_asm) (by k_mem) (by with_reducible assumption) ?hi (by with_reducible assumption) ?_ (by with_unfolding_all rfl); (case hi => omega)); intro _ _))
theorem turn3a {w : World} {s₀ : Shared} {mg mb : Str → Option Value} {h₀ : Heap} {L fa : Addr} {cdv : Value} {m : Str → Option Value} {s : Shared} {Q : Flow → Shared → Prop} {E : Value → Shared → Prop}
    {lt : Addr} {oi o2 : Obj} {vsT : List Value} {cT : Nat} {rs : List RR} {tl : List (Addr × Obj)} {i : Nat} {ti : Tok} :
    (PySem.Challenge.rw_br0003_01.Holds → True) → (hd.heap_39 w.params).In h₀ → TopL s₀ mg mb h₀ → Below callerA h₀ [] h₀ →
    PassesOwn (model PG w) (callerA.deeper (lawEnv L fa cdv)) (lawEnv L fa cdv) E → Fr h₀ L s.heap m →
    News h₀ L s.heap ((L + 1 + 1 + 1, oi) :: (L + 1 + 1, o2) :: (lt, W.listOf vsT.toArray cT) :: tl) →
    oi.data = .cell (some (.int (i : Int) ti)) → o2.data = .cell (some (.ref lt)) → All2 (PairIn tl) vsT rs → (∀ r ∈ rs, Good r) → byKey ckey rs → rs.length ≤ 14 → i < rs.length → vsT.length = rs.length →
    (∀ h' tk m', Fr h₀ L h' m' → News h₀ L h' ((L + 1 + 1 + 1, oi) :: (L + 1 + 1, o2) :: (lt, W.listOf vsT.toArray cT) :: tl) → wpAny (model PG w) (callerA.deeper (lawEnv L fa cdv)) (execs body12 (lawEnv L fa cdv)) Q E { s with heap := h', toks := tk }) →
    wpAny (model PG w) (callerA.deeper (lawEnv L fa cdv)) (execs body11 (lawEnv L fa cdv)) Q E s := by
  w_top off
  k_fill
  intro hk KX T K0 hE F N d1 d2 hT hG hS h14 hi hl hQ
  dsimp only [body12, body11, body10, body9, body8, body7, body6, body5, tl1, hd1, forBody, lawDef, from5, sixth, defBody, PySem.Challenge.pw_br0003_01, lawEnv, lawS, defScope] at hE hQ ⊢
  repeat' (first | (k_unfold; (try dsimp only)) | (k_end; wrow_close) | (dsimp only; walk1) | walk1 | (leave1; walk_say "STEP leave1"; try dsimp only) | fail "no step")
  rename_i hB tkB tB uB vB hR FB NB kB
  change LCg.CompSrc _ _ _ _ _ _ _ _ _ _ _ _ _ _
  obtain ⟨r1, r2⟩ := range_from (n := rs.length) hi (by omega)
  refine LCg.CompSrc.range (n := rs.length - (i + 1)) rfl FB NB hR r1 r2 (by rw [sizeLine_eq]; omega) fun g => ?_
  refine compRest_run (Y := fun k y => y = .bool (wit (rs.getD i (0, 0)) (rs.getD (i + 1 + k) (0, 0)))) trivial ?_ ?_
  · clear hR FB NB kB
    rintro k hk2 v I oI C oC D3 oD m₂ h tk E' ⟨tv, rfl⟩ hC hx F3 N3
    rw [show ((i : Int) + 1 + (k : Int)) = ((i + 1 + k : Nat) : Int) by omega] at hx
    repeat' (first | (with_reducible exact YEnd.intro (by with_reducible assumption) (by with_reducible assumption) rfl) | (k_unfold; (try dsimp only)) | (k_end; wrow_close) | (dsimp only; walk1) | walk1 | (leave1; walk_say "STEP leave1"; try dsimp only) | fail "no step")
  clear hR FB NB kB
  intro ys yl yv D1 h1 tk1 F1 N1 _
  have ey : ys = (flags rs i).map Value.bool := flags_values yl yv
  subst ey
  dsimp only
  have hfr := flags_front hG hS hi
  have hfl : ((flags rs i).filter id).length ≤ 14 := by
    have h1 := List.length_filter_le id (flags rs i)
    rw [flags_len] at h1
    omega
  repeat' (first | (k_unfold; (try dsimp only)) | (k_end; wrow_close) | (dsimp only; walk1) | walk1 | (leave1; walk_say "STEP leave1"; try dsimp only) | fail "no step")
  change LCt.CompSrcT _ _ _ _ _ _ _ _ _ _ _ _ _ _ _
  refine LCt.CompSrcT.ledger rfl F1 N1 (.head _) ?_ fun g2 => ?_
  · rw [List.size_toArray, List.length_map, flags_len, sizeLine_eq]; omega
  rw [List.size_toArray, List.length_map]
  refine compRestT_run (.inr ⟨_, .head _, rfl, _, rfl⟩) ?_ ?_
  · rintro k hk2 v I oI C oC D3 oD m₂ h tk E' hP hC hx F3 N3
    rw [List.getElem?_toArray, List.getElem?_map, List.getElem?_eq_getElem hk2] at hP
    have hb := List.getElem?_eq_getElem hk2
    generalize (flags rs i)[k] = b at hP hb
    cases hP
    cases b with
    | true =>
      repeat' (first | (with_reducible exact YEnd.intro (by with_reducible assumption) (by with_reducible assumption) (by with_reducible assumption)) | (k_unfold; (try dsimp only)) | (k_end; wrow_close) | (dsimp only; walk1) | walk1 | (leave1; walk_say "STEP leave1"; try dsimp only) | fail "no step")
    | false =>
      repeat' (first | (with_reducible exact YEnd.intro (by with_reducible assumption) (by with_reducible assumption) (by with_reducible assumption)) | (k_unfold; (try dsimp only)) | (k_end; wrow_close) | (dsimp only; walk1) | walk1 | (leave1; walk_say "STEP leave1"; try dsimp only) | fail "no step")
  intro ys2 yl2 D2 h2 tk2 F2 N2 _
  generalize ((flags rs i).filter id).length = c at hfr hfl yl2
  dsimp only
  repeat' (first | (with_reducible refine hQ _ _ _ (by with_reducible assumption) (kst_newsOf (by with_reducible assumption) (fun p hp => List.Mem.tail _ (.tail _ (.tail _ (.tail _ hp)))))) | (k_unfold; (try dsimp only)) | (k_end; wrow_close) | (dsimp only; walk1) | walk1 | (leave1; walk_say "STEP leave1"; try dsimp only) | fail "no step")
end Mine
namespace Mine
theorem TurnL.go {h₀ : Heap} {L I : Addr} {oI : Obj} {news : List (Addr × Obj)} {K : (Str → Option Value) → Prop} {s : Shared} {Q : Flow → Shared → Prop} {h' : Heap} {tk : Nat} {m' : Str → Option Value}
    (F : Fr h₀ L h' m') (N : News h₀ L h' ((I, oI) :: news)) (hK : K m') : TurnL h₀ L I oI news K s Q .next { s with heap := h', toks := tk } := ⟨h', tk, m', rfl, F, N, hK⟩
theorem ne_same {prog : Program} {w : World} {A : Around} {E : Value → Shared → Prop} {s : Shared} {h₀ : Heap} {L : Addr} {news tl : List (Addr × Obj)} {u v : Value} {r q : RR} {Q : Value → Shared → Prop} (N : News h₀ L s.heap news) (hs : ∀ p ∈ tl, p ∈ news) (hr : PairIn tl u r) (hq : PairIn tl v q) (hu : A.units + 64 < cLine) (e : r = q)
    (h : Q (.bool false) s) : wpAny (model prog w) A (compareOp .NotEq u v) Q E s := by
  refine ne_pair N (hr.mono hs) (hq.mono hs) hu ?_
  rw [decide_eq_true e]
  exact h
local macro_rules | `(tactic| walk_at "exec For") => `(tactic| (k_here; k_dflt (refine' For_C ?_ ?hs9; (case hs9 => (intro _; with_unfolding_all rfl)))))
local macro_rules | `(tactic| walk_at "call ref") => `(tactic| ((with_reducible show wpAny _ _ (call (Value.ref 157) [_, _]) _ _ _); k_dflt (refine' wit_call ?k1 ?k2 ?k3 ?k4 ?k5 ?k6 ?hu ?hv ?gr ?gq ?_; (case k1 => with_reducible assumption); (case k2 => with_reducible assumption); (case k3 => with_reducible assumption); (case k4 => with_reducible assumption); (case k5 => k_asm); (case k6 => k_asm); (case hu => (first | with_reducible assumption | (refine PairIn.mono ?_ (by with_reducible assumption); (intro p hp; repeat (first | exact hp | refine List.Mem.tail _ ?_))))); (case hv => (first | with_reducible assumption | (refine PairIn.mono ?_ (by with_reducible assumption); (intro p hp; repeat (first | exact hp | refine List.Mem.tail _ ?_))))); (case gr => exact getD_good (by assumption) (by omega)); (case gq => exact getD_good (by assumption) (by omega))); intro h' tk' F' N'))
local macro_rules | `(tactic| walk_at "subscriptTail") => `(tactic| (k_here; (with_reducible show wpAny _ _ (subscriptTail _ _ (Value.ref _) (Value.int _ _)) _ _ _); (refine item_at (by k_asm) (by k_mem) (by with_reducible assumption) ?hi (by with_reducible assumption) ?_ (by with_unfolding_all rfl); (case hi => omega)); intro _ _))
local macro_rules | `(tactic| walk_at "compareOp NotEq") => `(tactic| (k_here; k_dflt (refine' ne_same ?N ?s ?hr ?hq ?u ?e ?_; (case hr => with_reducible assumption); (case hq => with_reducible assumption); (case N => k_asm); (case s => (intro p hp; repeat (first | exact hp | refine List.Mem.tail _ ?_))); (case u => first | units_room | exact Nat.le_of_ble_eq_true rfl); (case e => exact wit_before (by with_reducible assumption) (by with_reducible assumption) (by with_reducible assumption) (by with_reducible assumption) (by with_reducible assumption)))))
theorem turn3b {w : World} {s₀ : Shared} {mg mb : Str → Option Value} {h₀ : Heap} {L fa : Addr} {cdv : Value} {m : Str → Option Value} {s : Shared} {Q : Flow → Shared → Prop} {E : Value → Shared → Prop}
    {lt : Addr} {oi o2 : Obj} {vsT : List Value} {cT : Nat} {rs : List RR} {tl : List (Addr × Obj)} {i : Nat} {ti : Tok} :
    (PySem.Challenge.rw_br0003_01.Holds → True) → (hd.heap_39 w.params).In h₀ → TopL s₀ mg mb h₀ → Below callerA h₀ [] h₀ →
    PassesOwn (model PG w) (callerA.deeper (lawEnv L fa cdv)) (lawEnv L fa cdv) E → Fr h₀ L s.heap m →
    News h₀ L s.heap ((L + 1 + 1 + 1, oi) :: (L + 1 + 1, o2) :: (lt, W.listOf vsT.toArray cT) :: tl) →
    oi.data = .cell (some (.int (i : Int) ti)) → o2.data = .cell (some (.ref lt)) → All2 (PairIn tl) vsT rs → (∀ r ∈ rs, Good r) → byKey ckey rs → rs.length ≤ 14 → i < rs.length → vsT.length = rs.length →
    (∀ h' tk m', Fr h₀ L h' m' → News h₀ L h' ((L + 1 + 1 + 1, oi) :: (L + 1 + 1, o2) :: (lt, W.listOf vsT.toArray cT) :: tl) → Q .next { s with heap := h', toks := tk }) →
    wpAny (model PG w) (callerA.deeper (lawEnv L fa cdv)) (execs body12 (lawEnv L fa cdv)) Q E s := by
  w_top off
  k_fill
  intro hk KX T K0 hE F N d1 d2 hT hG hS h14 hi hl hQ
  dsimp only [body12, body11, body10, body9, body8, body7, body6, body5, tl1, hd1, forBody, lawDef, from5, sixth, defBody, PySem.Challenge.pw_br0003_01, lawEnv, lawS, defScope] at hE ⊢
  refine wpAny_execs_cons ?_
  refine For_C ?_ (by intro _; rfl)
  repeat' (first | (with_reducible show wpAny _ _ (pyIter _) _ _ _; refine StopG.out ?_) | (k_unfold; (try dsimp only)) | (k_end; wrow_close) | (dsimp only; walk1) | walk1 | (leave1; walk_say "STEP leave1"; try dsimp only) | fail "no step")
  change wpAny _ _ (pyIter _) _ _ _
  rename_i hB tkB tB uB vB hR FB NB kB
  obtain ⟨r1, r2⟩ := range_from_zero (n := i) (by omega)
  refine' loopL_range (n := i) (K := fun _ => True) rfl hR r1 r2 rfl ?hx hE FB NB trivial ?_ ?_
  case hx => with_unfolding_all rfl
  · clear hR FB NB kB
    intro j m' h tk t oI hj _ F' N'
    change Fr h₀ L _ _ at F'
    change News h₀ L _ _ at N'
    generalize hB.objs.size = I0 at N' ⊢
    dsimp only
    repeat' (first | (k_dflt (exact TurnL.go (L := L) (by with_reducible assumption) (by with_reducible assumption) trivial)) | (k_unfold; (try dsimp only)) | (k_end; wrow_close) | (dsimp only; walk1) | walk1 | (leave1; walk_say "STEP leave1"; try dsimp only) | fail "no step")
  · intro m' h tk F' N' _
    change Fr h₀ L _ _ at F'
    change News h₀ L _ _ at N'
    dsimp only
    repeat' (first | (with_reducible exact hQ _ _ _ (by with_reducible assumption) (by with_reducible assumption)) | (k_unfold; (try dsimp only)) | (k_end; wrow_close) | (dsimp only; walk1) | walk1 | (leave1; walk_say "STEP leave1"; try dsimp only) | fail "no step")
end Mine
namespace Mine
def body13 : List Stmt := tl1 body10
local macro_rules | `(tactic| walk_at "call builtin:len") => `(tactic| (k_here; (with_reducible show wpAny _ _ (call (Value.builtin _) [Value.ref _]) _ _ _); k_dflt (refine len_named (by k_asm) (by k_mem) (by with_reducible assumption) ?z ?_; (case z => omega))))
theorem TurnC.go {h₀ : Heap} {L ci I : Addr} {oi oI : Obj} {news : List (Addr × Obj)} {s : Shared} {Q : Flow → Shared → Prop} {h' : Heap} {tk : Nat} {m' : Str → Option Value} {v : Option Value}
    (F : Fr h₀ L h' m') (N : News h₀ L h' ((ci, oi) :: (I, oI) :: news)) (hd : oi.data = .cell v) : TurnC h₀ L ci I oI news s Q .next { s with heap := h', toks := tk } := ⟨h', tk, m', oi, v, rfl, F, N, hd⟩
theorem sub_swap {a b c d : Addr × Obj} {l : List (Addr × Obj)} {e : Addr × Obj} : ∀ p ∈ a :: c :: d :: b :: e :: l, p ∈ a :: b :: c :: d :: e :: l := by
  intro p hp
  simp only [List.mem_cons] at hp ⊢
  rcases hp with h | h | h | h | h | h <;> simp [h]
theorem sub_swap' {a b c d : Addr × Obj} {l : List (Addr × Obj)} {e : Addr × Obj} : ∀ p ∈ a :: b :: c :: d :: e :: l, p ∈ a :: c :: d :: b :: e :: l := by
  intro p hp
  simp only [List.mem_cons] at hp ⊢
  rcases hp with h | h | h | h | h | h <;> simp [h]
theorem part5 {w : World} {s₀ : Shared} {mg mb : Str → Option Value} {h₀ : Heap} {L fa : Addr} {cdv : Value} {m : Str → Option Value} {s : Shared} {Q : Flow → Shared → Prop} {E : Value → Shared → Prop}
    {lt D : Addr} {oi o2 o3 : Obj} {vsT vs : List Value} {cT c : Nat} {rs : List RR} {tl : List (Addr × Obj)} {v₁ : Option Value} :
    (PySem.Challenge.rw_br0003_01.Holds → True) → (hd.heap_39 w.params).In h₀ → TopL s₀ mg mb h₀ → Below callerA h₀ [] h₀ →
    PassesOwn (model PG w) (callerA.deeper (lawEnv L fa cdv)) (lawEnv L fa cdv) E → Fr h₀ L s.heap m →
    News h₀ L s.heap ((L + 1 + 1 + 1, oi) :: (L + 1 + 1, o2) :: (lt, W.listOf vsT.toArray cT) :: (D, W.listOf vs.toArray c) :: (L + 1, o3) :: tl) →
    OwnOff tl [L + 1 + 1 + 1] → (@LT.lt Nat _ (L + 1 + 1 + 1) D ∧ @LT.lt Nat _ D lt) →
    oi.data = .cell v₁ → o2.data = .cell (some (.ref lt)) → All2 (PairIn tl) vsT rs → (∀ r ∈ rs, Good r) → byKey ckey rs → rs.length ≤ 14 → vsT.length = rs.length →
    (∀ h' tk m', Fr h₀ L h' m' → News h₀ L h' ((D, W.listOf vs.toArray c) :: (L + 1, o3) :: tl) → wpAny (model PG w) (callerA.deeper (lawEnv L fa cdv)) (execs body13 (lawEnv L fa cdv)) Q E { s with heap := h', toks := tk }) →
    wpAny (model PG w) (callerA.deeper (lawEnv L fa cdv)) (execs body10 (lawEnv L fa cdv)) Q E s := by
  w_top off
  k_fill
  intro hk KX T K0 hE F N hOff hlt d1 d2 hT hG hS h14 hl hQ
  have hE' := hE
  have hQ' := hQ
  have hturn := fun (i : Nat) (m' : Str → Option Value) (h : Heap) (tk : Nat) (t : Tok) (oi' oI : Obj) (I : Addr) (Q' : Flow → Shared → Prop) (hi : i < rs.length) (hd : oi'.data = .cell (some (.int (i : Int) t))) (F' : Fr h₀ L h m')
    (N' : News h₀ L h ((L + 1 + 1 + 1, oi') :: (I, oI) :: (L + 1 + 1, o2) :: (lt, W.listOf vsT.toArray cT) :: (D, W.listOf vs.toArray c) :: (L + 1, o3) :: tl))
    (fin : ∀ h' tk m', Fr h₀ L h' m' → News h₀ L h' ((L + 1 + 1 + 1, oi') :: (I, oI) :: (L + 1 + 1, o2) :: (lt, W.listOf vsT.toArray cT) :: (D, W.listOf vs.toArray c) :: (L + 1, o3) :: tl) → Q' .next { s with heap := h', toks := tk }) =>
    (show wpAny (model PG w) (callerA.deeper (lawEnv L fa cdv)) (execs body11 (lawEnv L fa cdv)) Q' E { s with heap := h, toks := tk } from
      have hT' : All2 (PairIn ((I, oI) :: (D, W.listOf vs.toArray c) :: (L + 1, o3) :: tl)) vsT rs := hT.mono fun v r => PairIn.mono fun p hp => .tail _ (.tail _ (.tail _ hp))
      turn3a hk KX T K0 hE F' (kst_newsOf N' sub_swap) hd d2 hT' hG hS h14 hi hl fun h1 tk1 m1 F1 N1 =>
        turn3b (s := { s with heap := h1, toks := tk1 }) hk KX T K0 hE F1 N1 hd d2 hT' hG hS h14 hi hl fun h2 tk2 m2 F2 N2 => fin h2 tk2 m2 F2 (kst_newsOf N2 sub_swap'))
  dsimp only [body13, body11, body10, body9, body8, body7, body6, body5, tl1, hd1, forBody, lawDef, from5, sixth, defBody, PySem.Challenge.pw_br0003_01, lawEnv, lawS, defScope] at hE hQ hturn ⊢
  refine wpAny_execs_cons ?_
  refine For_C ?_ (by intro _; rfl)
  repeat' (first | (with_reducible show wpAny _ _ (pyIter _) _ _ _; refine StopG.out ?_) | (k_unfold; (try dsimp only)) | (k_end; wrow_close) | (dsimp only; walk1) | walk1 | (leave1; walk_say "STEP leave1"; try dsimp only) | fail "no step")
  change wpAny _ _ (pyIter _) _ _ _
  rename_i hB tkB tB uB vB hR FB NB kB
  obtain ⟨r1, r2⟩ := range_from_zero (n := rs.length) (by omega)
  refine' loopC_range (n := rs.length) (ci := L + 1 + 1 + 1) rfl hR r1 r2 rfl ?hx ?hc hE FB NB d1 ?hoff ?_ ?_
  case hx => with_unfolding_all rfl
  case hc => with_unfolding_all rfl
  case hoff =>
    intro p hp
    rcases List.mem_cons.mp hp with rfl | hp
    · refine neN ?_; dsimp only; omega
    rcases List.mem_cons.mp hp with rfl | hp
    · refine neN ?_; dsimp only; omega
    rcases List.mem_cons.mp hp with rfl | hp
    · refine neN ?_; dsimp only; omega
    rcases List.mem_cons.mp hp with rfl | hp
    · refine neN ?_; dsimp only; omega
    exact hOff p hp _ (.head _)
  · clear hR FB NB kB
    intro i m' h tk t oi' oI hi hd F' N'
    exact hturn i m' h tk t oi' oI _ _ hi hd F' N' fun h1 tk1 m1 F1 N1 => TurnC.go (L := L) F1 N1 hd
  · intro m' h tk oi' v F' N' _
    exact hQ h tk m' F' (kst_newsOf N' fun p hp => List.Mem.tail _ (.tail _ (.tail _ hp)))
end Mine
namespace Mine
def body14 : List Stmt := tl1 body13
theorem all2_of {R : Value → RR → Prop} : ∀ {ys : List Value} {qs : List RR}, ys.length = qs.length → (∀ k y, ys[k]? = some y → R y (qs.getD k (0, 0))) → All2 R ys qs
  | [], [], _, _ => trivial
  | y :: ys, q :: qs, hl, h => ⟨h 0 y rfl, all2_of (Nat.succ.inj hl) fun k z hz => h (k + 1) z hz⟩
  | [], _ :: _, hl, _ => nomatch hl
  | _ :: _, [], hl, _ => nomatch hl
theorem rev_at {rs : List RR} {k : Nat} (hk : k < rs.length) : rs.reverse.getD k (0, 0) = rs.getD (rs.length - 1 - k) (0, 0) := by
  rw [List.getD_eq_getElem?_getD, List.getD_eq_getElem?_getD, List.getElem?_reverse hk]
theorem sub_drop {a b : Addr × Obj} {l : List (Addr × Obj)} : ∀ p ∈ a :: l, p ∈ a :: b :: l := by
  intro p hp
  rcases List.mem_cons.mp hp with rfl | hp
  · exact .head _
  · exact .tail _ (.tail _ hp)
local macro_rules | `(tactic| walk_at "call builtin:len") => `(tactic| (k_here; (with_reducible show wpAny _ _ (call (Value.builtin _) [Value.ref _]) _ _ _); k_dflt (refine len_named (by k_asm) (by k_mem) (by with_reducible assumption) ?z ?_; (case z => omega))))
local macro_rules | `(tactic| walk_at "CompSrc") => `(tactic| (k_here; refine StopG.out ?_))
theorem part6 {w : World} {s₀ : Shared} {mg mb : Str → Option Value} {h₀ : Heap} {L fa : Addr} {cdv : Value} {m : Str → Option Value} {s : Shared} {Q : Flow → Shared → Prop} {E : Value → Shared → Prop}
    {D : Addr} {o3 : Obj} {vs : List Value} {c : Nat} {rs : List RR} {tl : List (Addr × Obj)} :
    (PySem.Challenge.rw_br0003_01.Holds → True) → (hd.heap_39 w.params).In h₀ → TopL s₀ mg mb h₀ → Below callerA h₀ [] h₀ →
    PassesOwn (model PG w) (callerA.deeper (lawEnv L fa cdv)) (lawEnv L fa cdv) E → Fr h₀ L s.heap m →
    News h₀ L s.heap ((D, W.listOf vs.toArray c) :: (L + 1, o3) :: tl) →
    o3.data = .cell (some (.ref D)) → All2 (CidrIn w tl) vs rs → (∀ r ∈ rs, Good r) → byKey ckey rs → rs.length ≤ 14 → 0 < rs.length → vs.length = rs.length →
    (∀ h' tk m' D4 vs4 c4, Fr h₀ L h' m' → News h₀ L h' ((D4, W.listOf vs4.toArray c4) :: (D, W.listOf vs.toArray c) :: (L + 1, o3) :: tl) → All2 (CidrIn w tl) vs4 rs → m' (Str.ofString "again") = some (.ref D4) →
      wpAny (model PG w) (callerA.deeper (lawEnv L fa cdv)) (execs body14 (lawEnv L fa cdv)) Q E { s with heap := h', toks := tk }) →
    wpAny (model PG w) (callerA.deeper (lawEnv L fa cdv)) (execs body13 (lawEnv L fa cdv)) Q E s := by
  w_top off
  k_fill
  intro hk KX T K0 hE F N d3 hC hG hS h14 hpos hl hQ
  dsimp only [body14, body13, body11, body10, body9, body8, body7, body6, body5, tl1, hd1, forBody, lawDef, from5, sixth, defBody, PySem.Challenge.pw_br0003_01, lawEnv, lawS, defScope] at hE hQ ⊢
  repeat' (first | (k_unfold; (try dsimp only)) | (k_end; wrow_close) | (dsimp only; walk1) | walk1 | (leave1; walk_say "STEP leave1"; try dsimp only) | fail "no step")
  change LCg.CompSrc _ _ _ _ _ _ _ _ _ _ _ _ _ _
  rename_i hB tkB tB uB vB hR FB NB kB
  obtain ⟨r1, r2⟩ := range_from_zero (n := rs.length) (by omega)
  refine LCg.CompSrc.range (n := rs.length) rfl FB NB hR r1 r2 (by rw [sizeLine_eq]; omega) fun g => ?_
  refine compRest_run (Y := fun k y => CidrIn w tl y (rs.reverse.getD k (0, 0))) trivial ?_ ?_
  · clear hR FB NB kB
    rintro k hk2 v I oI C oC D3 oD m₂ h tk E' ⟨tv, rfl⟩ hCo hx F3 N3
    rw [show ((0 : Int) + (k : Int)) = (k : Int) by omega] at hx
    rw [rev_at hk2]
    have eB : nsIn (hd.heap_39 w.params) mainGlobals (Str.ofString "len") = some none := by k_is
    repeat' (first | ((with_reducible show wpAny _ _ (eval (PySem.Expr.Name (Str.ofString "len") _) _) _ _ _); k_dflt (refine LCgL.ld_built (by k_asm) KX T eB (by boot_by_name) (by decide) ?_)) | (k_dflt (exact YEnd.intro (L := L) (by with_reducible assumption) (by with_reducible assumption) (by with_reducible assumption))) | ((with_reducible show wpAny _ _ (subscriptTail _ _ (Value.ref _) (Value.int _ _)) _ _ _); (rw [show ((rs.length : Nat) : Int) - 1 - (k : Int) = ((rs.length - 1 - k : Nat) : Int) by omega]); (refine item_at (by k_asm) (by k_mem) hC ?_ h14 ?_ (by with_unfolding_all rfl)); ((try omega)); (try (intro _ _))) | (k_unfold; (try dsimp only)) | (k_end; wrow_close) | (dsimp only; walk1) | walk1 | (leave1; walk_say "STEP leave1"; try dsimp only) | fail "no step")
  clear hR FB NB kB
  intro ys yl yv D1 h1 tk1 F1 N1 _
  have hY : All2 (CidrIn w tl) ys rs.reverse := all2_of (by rw [yl, List.length_reverse]) yv
  dsimp only
  repeat' (first | ((with_reducible show wpAny _ _ (call (Value.builtin "sorted") _) _ _ _); refine StopG.out ?_) | (k_unfold; (try dsimp only)) | (k_end; wrow_close) | (dsimp only; walk1) | walk1 | (leave1; walk_say "STEP leave1"; try dsimp only) | fail "no step")
  change wpAny _ _ (call (Value.builtin "sorted") _) _ _ _
  refine cidr_sorted hk KX T K0 F1 N1 (kso_isList (its := ys.toArray) N1 (.head _) rfl) (tl := tl) (fun p hp => .tail _ (.tail _ (.tail _ hp))) hY (fun r hr => hG r (List.mem_reverse.mp hr)) (by rw [List.length_reverse]; omega) ?_
  intro D4 c4 h4 tk4 vs4 rs4 F4 N4 l4 hC4 hP4 hS4
  have heq : rs4 = rs := sorted_unique (key := ckey) (fun x hx y hy e => ckey_inj (hG x (List.mem_reverse.mp (hP4.mem_iff.mp hx))) (hG y (List.mem_reverse.mp (hP4.mem_iff.mp hy))) e) (hP4.trans (List.reverse_perm rs)) hS4 hS
  subst heq
  repeat' (first | (with_reducible exact hQ _ _ _ _ _ _ (by with_reducible assumption) (kst_newsOf (by with_reducible assumption) sub_drop) hC4 (if_pos rfl)) | (k_unfold; (try dsimp only)) | (k_end; wrow_close) | (dsimp only; walk1) | walk1 | (leave1; walk_say "STEP leave1"; try dsimp only) | fail "no step")
end Mine
namespace Mine
local macro_rules | `(tactic| walk_at "compareOp Is") => `(tactic| (k_here; k_dflt (refine wpAny_is_other (by rfl) (by intro x; cases x) ?_)))
theorem eq_c {w : World} {s₀ : Shared} {mg mb : Str → Option Value} {h₀ : Heap} {nms : List (Str × NameKind)} {more : List (Str × Const)} {L fa : Addr} {cdv : Value} {m : Str → Option Value}
    {news : List (Addr × Obj)} {s : Shared} {x y dx dy : Addr} {bx : Array UInt8} {mx : Int} {tx1 tx2 tx3 tx4 tx5 : Tok} {bY : Array UInt8} {mY : Int} {ty1 ty2 ty3 ty4 ty5 : Tok} {Q : Value → Shared → Prop} {E : Value → Shared → Prop} :
    (PySem.Challenge.rw_br0003_01.Holds → True) → (hd.heap_39 w.params).In h₀ → TopL s₀ mg mb h₀ → Below callerA h₀ [] h₀ →
    Fr h₀ L s.heap m → News h₀ L s.heap ((x, instObj 146 dx) :: (dx, cdict w bx mx tx1 tx2 tx3 tx4 tx5) :: (y, instObj 146 dy) :: (dy, cdict w bY mY ty1 ty2 ty3 ty4 ty5) :: news) → mx = mY → bx = bY →
    (∀ h' tk, Fr h₀ L h' m → News h₀ L h' news → Q (.bool true) { s with heap := h', toks := tk }) →
    wpAny (model PG w) (callerA.deeper (lenv nms more L fa cdv)) (compareOp .Eq (.ref x) (.ref y)) Q E s := by
  w_top off
  k_fill
  intro _ KX T K0 F N e1 e2 hQ
  subst e1
  subst e2
  have hQ' : ∀ b h' tk, Fr h₀ L h' m → News h₀ L h' ((x, instObj 146 dx) :: (dx, cdict w bx mx tx1 tx2 tx3 tx4 tx5) :: (y, instObj 146 dy) :: (dy, cdict w bx mx ty1 ty2 ty3 ty4 ty5) :: news) → b = true → Q (.bool b) { s with heap := h', toks := tk } :=
    fun b h' tk F' N' e => e ▸ hQ h' tk F' (kst_newsOf N' fun p hp => List.Mem.tail _ (.tail _ (.tail _ (.tail _ hp))))
  clear hQ
  repeat' (first | ((with_reducible refine hQ' _ _ _ (by with_reducible assumption) (by with_reducible assumption) ?_); (first | exact beq_self_eq_true _ | exact absurd rfl (by assumption) | (simp; done))) | (k_unfold; (try dsimp only)) | (k_end; wrow_close) | (dsimp only; walk1) | walk1 | (leave1; walk_say "STEP leave1"; try dsimp only) | fail "no step")
theorem ne_c {w : World} {s₀ : Shared} {mg mb : Str → Option Value} {h₀ : Heap} {nms : List (Str × NameKind)} {more : List (Str × Const)} {L fa : Addr} {cdv : Value} {m : Str → Option Value}
    {news : List (Addr × Obj)} {s : Shared} {x y dx dy : Addr} {bx : Array UInt8} {mx : Int} {tx1 tx2 tx3 tx4 tx5 : Tok} {bY : Array UInt8} {mY : Int} {ty1 ty2 ty3 ty4 ty5 : Tok} {Q : Value → Shared → Prop} {E : Value → Shared → Prop} :
    (PySem.Challenge.rw_br0003_01.Holds → True) → (hd.heap_39 w.params).In h₀ → TopL s₀ mg mb h₀ → Below callerA h₀ [] h₀ →
    Fr h₀ L s.heap m → News h₀ L s.heap ((x, instObj 146 dx) :: (dx, cdict w bx mx tx1 tx2 tx3 tx4 tx5) :: (y, instObj 146 dy) :: (dy, cdict w bY mY ty1 ty2 ty3 ty4 ty5) :: news) → mx = mY → bx = bY →
    (∀ h' tk, Fr h₀ L h' m → News h₀ L h' news → Q (.bool false) { s with heap := h', toks := tk }) →
    wpAny (model PG w) (callerA.deeper (lenv nms more L fa cdv)) (compareOp .NotEq (.ref x) (.ref y)) Q E s := by
  w_top off
  k_fill
  intro _ KX T K0 F N e1 e2 hQ
  subst e1
  subst e2
  have hQ' : ∀ b h' tk, Fr h₀ L h' m → News h₀ L h' ((x, instObj 146 dx) :: (dx, cdict w bx mx tx1 tx2 tx3 tx4 tx5) :: (y, instObj 146 dy) :: (dy, cdict w bx mx ty1 ty2 ty3 ty4 ty5) :: news) → b = false → Q (.bool b) { s with heap := h', toks := tk } :=
    fun b h' tk F' N' e => e ▸ hQ h' tk F' (kst_newsOf N' fun p hp => List.Mem.tail _ (.tail _ (.tail _ (.tail _ hp))))
  clear hQ
  repeat' (first | ((with_reducible refine hQ' _ _ _ (by with_reducible assumption) (by with_reducible assumption) ?_); (first | exact beq_self_eq_true _ | exact absurd rfl (by assumption) | (simp; done))) | (k_unfold; (try dsimp only)) | (k_end; wrow_close) | (dsimp only; walk1) | walk1 | (leave1; walk_say "STEP leave1"; try dsimp only) | fail "no step")
end Mine
namespace Mine
theorem cidr_ne {w : World} {s₀ : Shared} {mg mb : Str → Option Value} {h₀ : Heap} {nms : List (Str × NameKind)} {more : List (Str × Const)} {L fa : Addr} {cdv : Value} {m : Str → Option Value}
    {news tl : List (Addr × Obj)} {s : Shared} {u v : Value} {r : RR} {Q : Value → Shared → Prop} {E : Value → Shared → Prop}
    (hk : PySem.Challenge.rw_br0003_01.Holds → True) (KX : (hd.heap_39 w.params).In h₀) (T : TopL s₀ mg mb h₀) (K0 : Below callerA h₀ [] h₀)
    (F : Fr h₀ L s.heap m) (N : News h₀ L s.heap news) (hs : ∀ p ∈ tl, p ∈ news) (hu : CidrIn w tl u r) (hv : CidrIn w tl v r)
    (hQ : ∀ h' tk, Fr h₀ L h' m → News h₀ L h' news → Q (.bool false) { s with heap := h', toks := tk }) :
    wpAny (model PG w) (callerA.deeper (lenv nms more L fa cdv)) (compareOp .NotEq u v) Q E s := by
  obtain ⟨x, dx, bx, tx1, tx2, tx3, tx4, tx5, rfl, hx, hdx, hbx⟩ := hu
  obtain ⟨y, dy, bY, ty1, ty2, ty3, ty4, ty5, rfl, hy, hdy, hbY⟩ := hv
  refine ne_c (x := x) (y := y) (dx := dx) (dy := dy) (bx := bx) (bY := bY) (mx := r.1) (mY := r.1) (tx1 := tx1) (tx2 := tx2) (tx3 := tx3) (tx4 := tx4) (tx5 := tx5) (ty1 := ty1) (ty2 := ty2) (ty3 := ty3) (ty4 := ty4) (ty5 := ty5) hk KX T K0 F (news := news) (kst_newsOf N ?_) rfl (bInts_inj (hbx.trans hbY.symm)) hQ
  intro p hp
  rcases List.mem_cons.mp hp with rfl | hp
  · exact hs _ hx
  rcases List.mem_cons.mp hp with rfl | hp
  · exact hs _ hdx
  rcases List.mem_cons.mp hp with rfl | hp
  · exact hs _ hy
  rcases List.mem_cons.mp hp with rfl | hp
  · exact hs _ hdy
  exact hp
theorem cidr_eq {w : World} {s₀ : Shared} {mg mb : Str → Option Value} {h₀ : Heap} {nms : List (Str × NameKind)} {more : List (Str × Const)} {L fa : Addr} {cdv : Value} {m : Str → Option Value}
    {news tl : List (Addr × Obj)} {s : Shared} {u v : Value} {r : RR} {Q : Value → Shared → Prop} {E : Value → Shared → Prop}
    (hk : PySem.Challenge.rw_br0003_01.Holds → True) (KX : (hd.heap_39 w.params).In h₀) (T : TopL s₀ mg mb h₀) (K0 : Below callerA h₀ [] h₀)
    (F : Fr h₀ L s.heap m) (N : News h₀ L s.heap news) (hs : ∀ p ∈ tl, p ∈ news) (hu : CidrIn w tl u r) (hv : CidrIn w tl v r)
    (hQ : ∀ h' tk, Fr h₀ L h' m → News h₀ L h' news → Q (.bool true) { s with heap := h', toks := tk }) :
    wpAny (model PG w) (callerA.deeper (lenv nms more L fa cdv)) (compareOp .Eq u v) Q E s := by
  obtain ⟨x, dx, bx, tx1, tx2, tx3, tx4, tx5, rfl, hx, hdx, hbx⟩ := hu
  obtain ⟨y, dy, bY, ty1, ty2, ty3, ty4, ty5, rfl, hy, hdy, hbY⟩ := hv
  refine eq_c (x := x) (y := y) (dx := dx) (dy := dy) (bx := bx) (bY := bY) (mx := r.1) (mY := r.1) (tx1 := tx1) (tx2 := tx2) (tx3 := tx3) (tx4 := tx4) (tx5 := tx5) (ty1 := ty1) (ty2 := ty2) (ty3 := ty3) (ty4 := ty4) (ty5 := ty5) hk KX T K0 F (news := news) (kst_newsOf N ?_) rfl (bInts_inj (hbx.trans hbY.symm)) hQ
  intro p hp
  rcases List.mem_cons.mp hp with rfl | hp
  · exact hs _ hx
  rcases List.mem_cons.mp hp with rfl | hp
  · exact hs _ hdx
  rcases List.mem_cons.mp hp with rfl | hp
  · exact hs _ hy
  rcases List.mem_cons.mp hp with rfl | hp
  · exact hs _ hdy
  exact hp
local macro_rules | `(tactic| walk_at "call builtin:len") => `(tactic| (k_here; (with_reducible show wpAny _ _ (call (Value.builtin _) [Value.ref _]) _ _ _); k_dflt (refine len_named (by k_asm) (by k_mem) (by with_reducible assumption) ?z ?_; (case z => omega))))
local macro_rules | `(tactic| walk_at "subscriptTail") => `(tactic| (k_here; (with_reducible show wpAny _ _ (subscriptTail _ _ (Value.ref _) (Value.int _ _)) _ _ _); (refine item_at (by k_asm) (by k_mem) (by with_reducible assumption) ?hi (by with_reducible assumption) ?_ (by with_unfolding_all rfl); (case hi => omega)); intro _ _))
theorem part7 {w : World} {s₀ : Shared} {mg mb : Str → Option Value} {h₀ : Heap} {L fa : Addr} {cdv : Value} {m : Str → Option Value} {s : Shared} {Q : Flow → Shared → Prop} {E : Value → Shared → Prop}
    {D D4 : Addr} {o3 : Obj} {vs vs4 : List Value} {c c4 : Nat} {rs : List RR} {tl : List (Addr × Obj)} :
    (PySem.Challenge.rw_br0003_01.Holds → True) → (hd.heap_39 w.params).In h₀ → TopL s₀ mg mb h₀ → Below callerA h₀ [] h₀ →
    PassesOwn (model PG w) (callerA.deeper (lawEnv L fa cdv)) (lawEnv L fa cdv) E → Fr h₀ L s.heap m →
    News h₀ L s.heap ((D4, W.listOf vs4.toArray c4) :: (D, W.listOf vs.toArray c) :: (L + 1, o3) :: tl) →
    o3.data = .cell (some (.ref D)) → All2 (CidrIn w tl) vs rs → All2 (CidrIn w tl) vs4 rs → rs.length ≤ 14 → vs.length = rs.length → m (Str.ofString "again") = some (.ref D4) →
    (∀ h' tk m', Fr h₀ L h' m' → Q (.ret (.bool true)) { s with heap := h', toks := tk }) →
    wpAny (model PG w) (callerA.deeper (lawEnv L fa cdv)) (execs body14 (lawEnv L fa cdv)) Q E s := by
  w_top off
  k_fill
  intro hk KX T K0 hE F N d3 hC hC4 h14 hl hm hQ
  dsimp only [body14, body13, body11, body10, body9, body8, body7, body6, body5, tl1, hd1, forBody, lawDef, from5, sixth, defBody, PySem.Challenge.pw_br0003_01, lawEnv, lawS, defScope] at hE ⊢
  refine wpAny_execs_cons ?_
  refine For_C ?_ (by intro _; rfl)
  repeat' (first | (with_reducible show wpAny _ _ (pyIter _) _ _ _; refine StopG.out ?_) | (k_unfold; (try dsimp only)) | (k_end; wrow_close) | (dsimp only; walk1) | walk1 | (leave1; walk_say "STEP leave1"; try dsimp only) | fail "no step")
  change wpAny _ _ (pyIter _) _ _ _
  rename_i hB tkB tB uB vB hR FB NB kB
  obtain ⟨r1, r2⟩ := range_from_zero (n := rs.length) (by omega)
  refine' loopL_range (n := rs.length) (K := fun m => m (Str.ofString "again") = some (.ref D4)) rfl hR r1 r2 rfl ?hx hE FB NB hm ?_ ?_
  case hx => with_unfolding_all rfl
  · clear hR FB NB kB
    intro k m' h tk t oI hi hK F' N'
    change Fr h₀ L _ _ at F'
    change News h₀ L _ _ at N'
    have F' := fr_look F' (x := Str.ofString "again") (v := .ref D4) ((if_neg (by decide)).trans hK)
    generalize hB.objs.size = I0 at N' ⊢
    dsimp only
    repeat' (first | (k_dflt (exact TurnL.go (L := L) (by with_reducible assumption) (by with_reducible assumption) (if_pos rfl))) | ((with_reducible show wpAny _ _ (compareOp CmpOp.NotEq _ _) _ _ _); k_dflt (refine cidr_ne hk KX T K0 (by k_asm) (by k_asm) (fun p hp => List.Mem.tail _ (.tail _ (.tail _ (.tail _ hp)))) (by with_reducible assumption) (by with_reducible assumption) ?_); (intro _ _ _ _)) | ((with_reducible show wpAny _ _ (compareOp CmpOp.Eq _ _) _ _ _); k_dflt (refine cidr_eq hk KX T K0 (by k_asm) (by k_asm) (fun p hp => List.Mem.tail _ (.tail _ (.tail _ (.tail _ hp)))) (by with_reducible assumption) (by with_reducible assumption) ?_); (intro _ _ _ _)) | (k_unfold; (try dsimp only)) | (k_end; wrow_close) | (dsimp only; walk1) | walk1 | (leave1; walk_say "STEP leave1"; try dsimp only) | fail "no step")
  · intro m' h tk F' N' _
    change Fr h₀ L _ _ at F'
    change News h₀ L _ _ at N'
    dsimp only
    repeat' (first | (with_reducible exact hQ _ _ _ (by with_reducible assumption)) | (k_unfold; (try dsimp only)) | (k_end; wrow_close) | (dsimp only; walk1) | walk1 | (leave1; walk_say "STEP leave1"; try dsimp only) | fail "no step")
end Mine
namespace Mine
theorem sub_five {a b c d e f : Addr × Obj} {l : List (Addr × Obj)} : ∀ p ∈ c :: d :: a :: b :: e :: l, p ∈ a :: b :: c :: d :: e :: f :: l := by
  intro p hp
  simp only [List.mem_cons] at hp ⊢
  rcases hp with h | h | h | h | h | h <;> simp [h]
theorem parts {w : World} {s₀ : Shared} {mg mb : Str → Option Value} {h₀ : Heap} {L fa : Addr} {cdv : Value} {m : Str → Option Value} {s : Shared} {Q : Flow → Shared → Prop} {E : Value → Shared → Prop}
    {lr lf lc : Addr} {o1 o2 o3 : Obj} {vsC : List Value} {ns : List Int} {base common : Int} {tb tc : Tok} {v₁ : Option Value} :
    (PySem.Challenge.rw_br0003_01.Holds → True) → (hd.heap_39 w.params).In h₀ → TopL s₀ mg mb h₀ → Below callerA h₀ [] h₀ →
    (@LT.lt Nat _ (L + 1 + 1 + 1) lr ∧ @LT.lt Nat _ (L + 1 + 1) lr ∧ @LT.lt Nat _ (L + 1) lr ∧ @LT.lt Nat _ lr lf) → o1.data = .cell v₁ → o2.data = .cell none → o3.data = .cell none →
    PassesOwn (model PG w) (callerA.deeper (lawEnv L fa cdv)) (lawEnv L fa cdv) E → Fr h₀ L s.heap m →
    News h₀ L s.heap ((lf, W.listOf #[] 0) :: (lr, W.listOf #[] 0) :: (lc, W.listOf vsC.toArray 0) :: (L + 1 + 1 + 1, o1) :: (L + 1 + 1, o2) :: (L + 1, o3) :: []) →
    IntsAre vsC ns → ns.length = 16 → (∀ n ∈ ns, 0 ≤ n) → 0 ≤ base → base < 28 → 0 ≤ common → common < 2 ^ base.toNat →
    m (Str.ofString "cells") = some (.ref lc) → m (Str.ofString "rows") = some (.ref lr) → m (Str.ofString "first") = some (.ref lf) → m (Str.ofString "common") = some (.int common tc) → m (Str.ofString "base") = some (.int base tb) →
    (∀ h' tk m', Fr h₀ L h' m' → Q (.ret (.bool true)) { s with heap := h', toks := tk }) →
    wpAny (model PG w) (callerA.deeper (lawEnv L fa cdv)) (execs body5 (lawEnv L fa cdv)) Q E s := by
  intro hk KX T K0 e1 d1 d2 d3 hE F N hI hn h0 b0 b1 c0 c1 m0 m1 m2 m3 m4 hQ
  refine part2 hk KX T K0 e1 hE F N hI hn h0 b0 b1 c0 c1 m0 m1 m2 m3 m4 ?_
  intro h1 tk1 m1' vsR vsF cR cF rs tl F1 N1 of1 hR hF hG h14 hpos n1 n2
  refine part3 (s := { s with heap := h1, toks := tk1 }) hk KX T K0 e1 d2 d3 hE F1 N1 of1 hR hF hG h14 hpos n1 n2 ?_
  intro h2 tk2 m2' lt D o2' o3' vs c vsT cT rs' tl' F2 N2 of2 e2 d2' d3' hR' hT' hC' hG' hP hS h14' hpos' n3
  refine part4 (s := { s with heap := h2, toks := tk2 }) hk KX T K0 hE F2 N2 of2 e2 d2' d3' hR' hT' hC' hG' hP hS h14' hpos' n3 ?_
  intro h3 tk3 m3' F3 N3
  have hGs : ∀ r ∈ rs', Good r := fun r hr => hG' r (hP.mem_iff.mp hr)
  have hlen : rs'.length = rs.length := hP.length_eq
  refine part5 (s := { s with heap := h3, toks := tk3 }) (oi := o1) (o2 := o2') (o3 := o3') (tl := tl') hk KX T K0 hE F3 (kst_newsOf N3 sub_five) (fun p hp b hb => of2 p hp b (by rw [List.mem_singleton.mp hb]; simp)) ⟨Nat.lt_trans e2.1 e2.2.2.2.1, e2.2.2.2.2⟩ d1 d2' hT' hGs hS (by omega) hT'.length ?_
  intro h4 tk4 m4' F4 N4
  refine part6 (s := { s with heap := h4, toks := tk4 }) hk KX T K0 hE F4 N4 d3' hC' hGs hS (by omega) (by omega) hC'.length ?_
  intro h5 tk5 m5' D4 vs4 c4 F5 N5 hC4 m6
  exact part7 (s := { s with heap := h5, toks := tk5 }) hk KX T K0 hE F5 N5 d3' hC' hC4 (by omega) hC'.length m6 fun h6 tk6 m6 F6 => hQ h6 tk6 m6 F6
end Mine
namespace Mine
theorem cells_facts (w : List Int) : (List.map (fun k' : Int => k'.fmod 1000000) (List.take 16 w) ++ List.drop (((List.take 16 w).length : Nat) : Int).toNat [0, 3, 7, 40, 71, 18, 101, 134, 60, 2, 33, 9, 190, 25, 47, 3]).length = 16 ∧
    ∀ n ∈ (List.map (fun k' : Int => k'.fmod 1000000) (List.take 16 w) ++ List.drop (((List.take 16 w).length : Nat) : Int).toNat [0, 3, 7, 40, 71, 18, 101, 134, 60, 2, 33, 9, 190, 25, 47, 3]), 0 ≤ n := by
  constructor
  · rw [List.length_append, List.length_map, List.length_drop, List.length_take, Int.toNat_natCast]
    simp only [List.length_cons, List.length_nil]
    omega
  · intro n hn
    rcases List.mem_append.mp hn with h | h
    · obtain ⟨k, _, rfl⟩ := List.mem_map.mp h
      exact fmod_lo k (by decide)
    · have h' := List.mem_of_mem_drop h
      simp only [List.mem_cons, List.not_mem_nil, or_false] at h'
      omega
end Mine
namespace Mine
local macro_rules | `(tactic| walk_at "execs cons") => `(tactic| ((with_reducible show wpAny _ _ (execs (Stmt.For _ _ _ _ _ :: _) _) _ _ _); refine StopG.out ?_))
theorem main : PySem.Challenge.rw_br0003_01.Holds := hd (by
  w_top off
  k_go0
  (all_goals try k_fold)
  k_steps
  change wpAny (model PG _) (callerA.deeper (lawEnv _ _ _)) (execs body5 (lawEnv _ _ _)) _ _ _
  rename (hd.heap_39 _).In _ => KX
  rename Top _ _ _ _ _ _ => T
  rename Below _ _ _ _ => K0
  rename Fr _ _ _ _ => F
  rename News _ _ _ _ => N
  refine' parts (fun _ => trivial) KX T K0 ?e1 ?d1 ?d2 ?d3 ?hE F (kst_newsOf N ?sub) ?hI ?hn ?h0 ?b0 ?b1 ?c0 ?c1 ?m0 ?m1 ?m2 ?m3 ?m4 ?fin
  case m0 => (repeat (first | exact if_pos rfl | refine (if_neg (by decide)).trans ?_))
  case m1 => (repeat (first | exact if_pos rfl | refine (if_neg (by decide)).trans ?_))
  case m2 => (repeat (first | exact if_pos rfl | refine (if_neg (by decide)).trans ?_))
  case m3 => (repeat (first | exact if_pos rfl | refine (if_neg (by decide)).trans ?_))
  case m4 => (repeat (first | exact if_pos rfl | refine (if_neg (by decide)).trans ?_))
  case sub => lcg_sub
  case hI => assumption
  case hn => exact (cells_facts _).1
  case h0 => exact (cells_facts _).2
  case b0 => assumption
  case b1 => assumption
  case c0 => exact fmod_lo _ (pow_pos' _)
  case c1 => exact fmod_hi _ (pow_pos' _)
  case d1 => assumption
  case d2 => with_unfolding_all assumption
  case d3 => with_unfolding_all assumption
  case e1 => exact ⟨by omega, by omega, by omega, by omega⟩
  case hE => (first | with_unfolding_all passes_own | passes_own)
  case fin =>
    clear F N
    intro h' tk m' F'
    repeat' (first | (k_end; wrow_close) | (k_unfold; (try dsimp only)) | (dsimp only; walk1) | walk1 | (leave1; walk_say "STEP leave1"; try dsimp only) | fail "no step"))
end Mine
theorem PySem.Challenge.cw_br0003_01_holds : PySem.Challenge.rw_br0003_01.Holds := by
  exact Mine.main
