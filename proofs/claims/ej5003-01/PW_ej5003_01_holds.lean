import PyProof.Rows.All
import Wide.All
import OpenK.AllK
import Wide.FinOn
import Lean
import PySem.Challenge.RW_ej5003_01
set_option Elab.async false
set_option maxRecDepth 100000
set_option maxHeartbeats 40000000
section
open PySem PySem.W PyProof.Rows
namespace Mine
/-- the end of a cut: a value with P, the frame and the ledger as they stood -/
def Cut (P : Value → Prop) (h₀ : Heap) (L : Addr) (m : Str → Option Value) (news : List (Addr × Obj)) (s : Shared) (v : Value) (s' : Shared) : Prop :=
  P v ∧ ∃ (h : Heap) (tk : Nat), s' = { heap := h, gens := s.gens, drawn := s.drawn, toks := tk, os := s.os } ∧ Fr h₀ L h m ∧ News h₀ L h news
theorem cut_end {P : Value → Prop} {h₀ h : Heap} {L : Addr} {m : Str → Option Value} {news news' : List (Addr × Obj)} {s s' : Shared} {v : Value} {tk : Nat}
    (hv : P v) (hs : s' = { heap := h, gens := s.gens, drawn := s.drawn, toks := tk, os := s.os }) (F : Fr h₀ L h m) (N : News h₀ L h news') (hn : ∀ p ∈ news, p ∈ news') : Cut P h₀ L m news s v s' :=
  ⟨hv, h, tk, hs, F, fun p hp => N p (hn p hp)⟩
/-- the same for bytes that are not yet known -/
def CutB (ks : List Int) (h₀ : Heap) (L : Addr) (m : Str → Option Value) (news : List (Addr × Obj)) (s : Shared) (v : Value) (s' : Shared) : Prop :=
  (∃ t, v = .bytes (byteArr ks) t) ∧ ∃ (h : Heap) (tk : Nat), s' = { heap := h, gens := s.gens, drawn := s.drawn, toks := tk, os := s.os } ∧ Fr h₀ L h m ∧ News h₀ L h news
def CutLater (P : Prop) : Prop := P
theorem cutB_end {ks ls : List Int} {t : Tok} {h₀ h : Heap} {L : Addr} {m : Str → Option Value} {news news' : List (Addr × Obj)} {s s' : Shared} {v : Value} {tk : Nat}
    (e : ks = ls) (hv : v = .bytes (byteArr ls) t) (hs : s' = { heap := h, gens := s.gens, drawn := s.drawn, toks := tk, os := s.os }) (F : Fr h₀ L h m) (N : News h₀ L h news') (hn : ∀ p ∈ news, p ∈ news') : CutB ks h₀ L m news s v s' :=
  ⟨⟨t, by rw [hv, e]⟩, h, tk, hs, F, fun p hp => N p (hn p hp)⟩
def IsInt (v : Value) : Prop := ∃ i t, v = .int i t
theorem isInt (i : Int) (t : Tok) : IsInt (.int i t) := ⟨i, t, rfl⟩
theorem ints_rep (n : Nat) (i : Int) (t : Tok) : IntsAre (List.replicate n (Value.int i t)) (List.replicate n i) := by
  induction n with
  | zero => exact .nil
  | succ n ih => exact .cons i t ih
theorem rep_flat {α : Type} (n : Nat) (x : α) : (List.replicate n [x]).flatten = List.replicate n x := by
  induction n with
  | zero => rfl
  | succ n ih => rw [List.replicate_succ, List.flatten_cons, ih, List.replicate_succ]; rfl
theorem byteArr_rep (n : Nat) (c : Int) : byteArr (List.replicate n c) = (List.replicate n c.toNat.toUInt8).toArray := by
  unfold byteArr
  rw [List.map_replicate]
theorem byteArr_app (ks ls : List Int) : byteArr (ks ++ ls) = byteArr ks ++ byteArr ls := by
  unfold byteArr
  rw [List.map_append, List.append_toArray]
section
variable {prog : Program} {w : World} {A : Around} {E : Value → Shared → Prop} {s : Shared} {M : Model} {h₀ : Heap} {L D : Addr} {m : Str → Option Value} {news : List (Addr × Obj)}
theorem cut {Q : Value → Shared → Prop} (P : Value → Prop) {c : Sem Value}
    (_F : Fr h₀ L s.heap m) (_N : News h₀ L s.heap news)
    (hc : wpAny M A c (fun v s₂ => Cut P h₀ L m news s v s₂) E s)
    (hk : ∀ (v : Value) (h : Heap) (tk : Nat), P v → Fr h₀ L h m → News h₀ L h news → Q v { heap := h, gens := s.gens, drawn := s.drawn, toks := tk, os := s.os }) : wpAny M A c Q E s := by
  refine wpAny_mono hc (fun v s₂ hq => ?_) fun _ _ h => h
  obtain ⟨hp, h, tk, hs, F, N⟩ := hq
  subst hs
  exact hk v h tk hp F N
theorem cutB {Q : Value → Shared → Prop} {c : Sem Value} (ks : List Int)
    (_F : Fr h₀ L s.heap m) (_N : News h₀ L s.heap news)
    (hc : wpAny M A c (fun v s₂ => CutB ks h₀ L m news s v s₂) E s)
    (hk : CutLater (∀ (t : Tok) (h : Heap) (tk : Nat), Fr h₀ L h m → News h₀ L h news → Q (.bytes (byteArr ks) t) { heap := h, gens := s.gens, drawn := s.drawn, toks := tk, os := s.os })) : wpAny M A c Q E s := by
  refine wpAny_mono hc (fun v s₂ hq => ?_) fun _ _ h => h
  obtain ⟨⟨t, ht⟩, h, tk, hs, F, N⟩ := hq
  subst hs ht
  exact hk t h tk F N
/-- a remainder by a number above nought: a number of its own, with its bounds -/
theorem modFresh {x n : Int} {t u : Tok} {Q : Value → Shared → Prop} (hn : 0 < n)
    (h : ∀ (r : Nat) (t' : Tok) (k : Nat), (r : Int) = x % n → (r : Int) < n → Q (.int (r : Int) t') { heap := s.heap, gens := s.gens, drawn := s.drawn, toks := k, os := s.os }) :
    wpAny (model prog w) A (binaryOp .Mod (.int x t) (.int n u)) Q E s := by
  refine mod_int' (by omega) ?_
  have e : x.fmod n = x % n := Int.fmod_eq_emod_of_nonneg _ (by omega)
  have h0 : 0 ≤ x % n := Int.emod_nonneg _ (by omega)
  have h1 : x % n < n := Int.emod_lt_of_pos _ hn
  rw [e]
  have := h (x % n).toNat s.toks (s.toks + 1) (by omega) (by omega)
  rw [Int.toNat_of_nonneg h0] at this
  exact this
theorem zeros {n : Nat} {u t : Tok} {k : Nat} {Q : Value → Shared → Prop} (F : Fr h₀ L s.heap m) (N : News h₀ L s.heap ((D, listOf #[Value.int 0 t] k) :: news)) (hn : n ≤ 256)
    (h : ∀ D' h', Fr h₀ L h' m → News h₀ L h' ((D', listOf (List.replicate n (Value.int 0 t)).toArray 0) :: news) → Q (.ref D') { heap := h', gens := s.gens, drawn := s.drawn, toks := s.toks, os := s.os }) :
    wpAny (model prog w) A (binaryOp .Mult (.ref D) (.int (n : Int) u)) Q E s := by
  have hl : s.heap.IsList D ([Value.int 0 t].toArray) := News.isList N (.head _)
  refine KMa.mul (ws := List.replicate n (Value.int 0 t)) F N hl (by omega) (by omega) (by simp; omega) (by rw [Int.toNat_natCast]; exact rep_flat n _) fun D' h' F' N' _ => ?_
  refine h D' h' F' fun p hp => N' p ?_
  rcases List.mem_cons.mp hp with rfl | hp
  · exact .head _
  · exact .tail _ (.tail _ hp)
theorem makeBytes {vs : List Value} {ns : List Int} {k : Nat} {Q : Value → Shared → Prop} (F : Fr h₀ L s.heap m) (N : News h₀ L s.heap ((D, listOf vs.toArray k) :: news)) (hh : A.handled = none) (hi : IntsAre vs ns) (hr : ∀ n ∈ ns, 0 ≤ n ∧ n < 256) (hn : ns.length ≤ 16777216)
    (h : ∀ h' t' k, Fr h₀ L h' m → News h₀ L h' news → Q (.bytes (byteArr ns) t') { heap := h', gens := s.gens, drawn := s.drawn, toks := k, os := s.os }) : wpAny (model prog w) A (call (.type "bytes") [.ref D]) Q E s :=
  KBa.make_K F N hh (News.isList N (.head _)) hi hr hn fun h' t' k F' N' _ => h h' t' k F' fun p hp => N' p (.tail _ hp)
theorem mulBytes {c : Int} {n : Nat} {t u : Tok} {Q : Value → Shared → Prop} (hn : n ≤ 1000) (h : ∀ t' k, Q (.bytes (byteArr (List.replicate n c)) t') { heap := s.heap, gens := s.gens, drawn := s.drawn, toks := k, os := s.os }) :
    wpAny (model prog w) A (binaryOp .Mult (.bytes (byteArr [c]) t) (.int (n : Int) u)) Q E s := by
  have e : byteArr [c] = [c.toNat.toUInt8].toArray := rfl
  rw [e]
  refine bytes_mul_any (List.cons_ne_nil _ _) (by omega) (by omega) (by simp) fun t' k => ?_
  rw [Int.toNat_natCast, rep_flat]
  have := h t' k
  rw [byteArr_rep] at this
  exact this
/-- the four tails of blanks: one of them, whichever -/
def Blanks (ks : List Int) : Prop := ks.length ≤ 4 ∧ ∀ k ∈ ks, k = 32 ∨ k = 10 ∨ k = 9 ∨ k = 13
theorem menu {K : Frag} {a : Addr} {dd : Option Addr} {sl : Array (Option Value)} {n i : Nat} {u : Tok} {t0 t1 t2 t3 : Tok} {value slice : PySem.Expr} {Q : Value → Shared → Prop} (F : Fr h₀ L s.heap m) (X₀ : K.In h₀)
    (hl : K.lookup a = some ⟨.type "tuple", dd, .seq [.bytes (List.toArray []) t0, .bytes (List.toArray [32]) t1, .bytes (List.toArray [10]) t2, .bytes (List.toArray [32, 9, 13, 10]) t3].toArray n, sl⟩)
    (hi : (i : Int) < 4) (h : ∀ ks t', Blanks ks → Q (.bytes (byteArr ks) t') s)
    (hs : ∀ k : Int, subscripted slice false (.ref a) (.int k u) = operate [.ref a, .int k u] (getItem (.ref a) (.int k u)) := by intro _; with_unfolding_all rfl) :
    wpAny (model prog w) A (subscriptTail value slice (.ref a) (.int (i : Int) u)) Q E s := by
  have hc : i = 0 ∨ i = 1 ∨ i = 2 ∨ i = 3 := by omega
  rcases hc with rfl | rfl | rfl | rfl
  · exact topTup_K F X₀ hl (by decide) (by decide) (j := 0) rfl rfl (h [] t0 (by unfold Blanks; decide)) (hs _)
  · exact topTup_K F X₀ hl (by decide) (by decide) (j := 1) rfl rfl (h [32] t1 (by unfold Blanks; decide)) (hs _)
  · exact topTup_K F X₀ hl (by decide) (by decide) (j := 2) rfl rfl (h [10] t2 (by unfold Blanks; decide)) (hs _)
  · exact topTup_K F X₀ hl (by decide) (by decide) (j := 3) rfl rfl (h [32, 9, 13, 10] t3 (by unfold Blanks; decide)) (hs _)
theorem byteArr_size' (ks : List Int) : (byteArr ks).size = ks.length := byteArr_size ks
theorem byteArr_list (ks : List Int) : (byteArr ks).toList = ks.map fun n => n.toNat.toUInt8 := rfl
theorem picked_byteArr (ks : List Int) (lo hi : Option Int) :
    KBy.picked (byteArr ks) lo hi = byteArr ((ks.drop (lo.elim 0 (clipAt ks.length))).take (hi.elim ks.length (clipAt ks.length) - lo.elim 0 (clipAt ks.length))) := by
  rw [KBc.picked_eq, byteArr_list, byteArr_size]
  unfold byteArr
  rw [List.map_take, List.map_drop]
theorem slice {ks ls : List Int} {t : Tok} {l u : Value} {lo hi : Option Int} {value slice : PySem.Expr} {Q : Value → Shared → Prop} (hF : Fr h₀ L s.heap m) (hN : News h₀ L s.heap news) (hl : IsPart l lo) (hu : IsPart u hi) (hz : ks.length ≤ 16777216)
    (e : (ks.drop (lo.elim 0 (clipAt ks.length))).take (hi.elim ks.length (clipAt ks.length) - lo.elim 0 (clipAt ks.length)) = ls)
    (h : ∀ h' t' k, Fr h₀ L h' m → News h₀ L h' news → Q (.bytes (byteArr ls) t') { heap := h', gens := s.gens, drawn := s.drawn, toks := k, os := s.os })
    (hs : subscripted slice false (.bytes (byteArr ks) t) (.ref s.heap.objs.size) = operate [.ref s.heap.objs.size, .bytes (byteArr ks) t] (getItem (.bytes (byteArr ks) t) (.ref s.heap.objs.size)) := by with_unfolding_all rfl)
    (ht : ∀ r, letTemporaryGo value (.bytes (byteArr ks) t) r = pure () := by intro _; with_unfolding_all rfl) :
    wpAny (model prog w) A (subscriptTail value slice (.bytes (byteArr ks) t) (.ref s.heap.objs.size)) Q E { heap := s.heap.push { cls := .type "slice", data := .fields #[l, u, .none] }, gens := s.gens, drawn := s.drawn, toks := s.toks, os := s.os } := by
  refine KBc.slice_K (s := s) hF hN (ks := KBw.bInts (byteArr ks)) rfl hl hu (by rw [KBw.ints_length, byteArr_size]; exact hz) (fun h' t' k F' N' _ => ?_) hs ht
  rw [picked_byteArr, e]
  exact h h' t' k F' N'
theorem e_head (c : Int) : (([c] : List Int).drop (Option.elim (some (0 : Int)) 0 (clipAt ([c] : List Int).length))).take (Option.elim (some (1 : Int)) ([c] : List Int).length (clipAt ([c] : List Int).length) - Option.elim (some (0 : Int)) 0 (clipAt ([c] : List Int).length)) = [c] := rfl
theorem e_nil : (([] : List Int).drop (Option.elim (some (0 : Int)) 0 (clipAt ([] : List Int).length))).take (Option.elim (some (1 : Int)) ([] : List Int).length (clipAt ([] : List Int).length) - Option.elim (some (0 : Int)) 0 (clipAt ([] : List Int).length)) = ([] : List Int) := rfl
theorem e_to {n a : Nat} (c : Int) (h : a ≤ n) : ((List.replicate n c).drop (Option.elim (none : Option Int) 0 (clipAt (List.replicate n c).length))).take (Option.elim (some (a : Int)) (List.replicate n c).length (clipAt (List.replicate n c).length) - Option.elim (none : Option Int) 0 (clipAt (List.replicate n c).length)) = List.replicate a c := by
  simp only [Option.elim, clipAt_nat, List.length_replicate, List.drop_zero, Nat.sub_zero, List.take_replicate]
  rw [show min (min a n) n = a by omega]
theorem e_from {n a : Nat} (c : Int) (h : a ≤ n) : ((List.replicate n c).drop (Option.elim (some (a : Int)) 0 (clipAt (List.replicate n c).length))).take (Option.elim (none : Option Int) (List.replicate n c).length (clipAt (List.replicate n c).length) - Option.elim (some (a : Int)) 0 (clipAt (List.replicate n c).length)) = List.replicate (n - a) c := by
  simp only [Option.elim, clipAt_nat, List.length_replicate, List.drop_replicate, List.take_replicate]
  rw [show min (n - min a n) (n - min a n) = n - a by omega]
theorem neSame {ks ls : List Int} {t u : Tok} {Q : Value → Shared → Prop} (e : ks = ls) (h : Q (.bool false) s) : wpAny (model prog w) A (compareOp .NotEq (.bytes (byteArr ks) t) (.bytes (byteArr ls) u)) Q E s := by
  subst e
  refine ne_bytes ?_
  rw [show ((byteArr ks).toList != (byteArr ks).toList) = false from bne_self_eq_false _]
  exact h
theorem const {M : Model} {env : Env} {x : List UInt8} {k pos} {ks : List Int} {Q : Value → Shared → Prop} (e : x = ks.map fun n => n.toNat.toUInt8) (h : ∀ t k, Q (.bytes (byteArr ks) t) { heap := s.heap, gens := s.gens, drawn := s.drawn, toks := k, os := s.os }) :
    wpAny M A (eval (.Constant (.bytes x) k pos) env) Q E s := by
  subst e
  exact Constant_bytes (h _ _)
theorem len {ks : List Int} {t : Tok} {n : Nat} {Q : Value → Shared → Prop} (e : ks.length = n) (hn : n ≤ 1000) (h : ∀ t' k, Q (.int (n : Int) t') { heap := s.heap, gens := s.gens, drawn := s.drawn, toks := k, os := s.os }) :
    wpAny (model prog w) A (call (.builtin "len") [.bytes (byteArr ks) t]) Q E s := by
  refine len_bytes (by rw [byteArr_size]; omega) ?_
  rw [byteArr_size, e]
  exact h _ _
end
end Mine
end
section
open PySem PySem.W PyProof.Rows
namespace Mine
open PySem.Builtin
theorem slot_lstrip : Slot "bytes" "lstrip" "bytes.lstrip" :=
  .of (owner := "bytes") (n := "lstrip") (by rw [typeLookup_type, builtinLookup_eq_fast]; kernel_rfl) (by decide +kernel) (by decide +kernel) (by decide +kernel)
    (by first | exact .inl (by decide +kernel) | exact .inr (by decide +kernel)) (by rw [isSubtype_type]; kernel_rfl)
theorem slot_rstrip : Slot "bytes" "rstrip" "bytes.rstrip" :=
  .of (owner := "bytes") (n := "rstrip") (by rw [typeLookup_type, builtinLookup_eq_fast]; kernel_rfl) (by decide +kernel) (by decide +kernel) (by decide +kernel)
    (by first | exact .inl (by decide +kernel) | exact .inr (by decide +kernel)) (by rw [isSubtype_type]; kernel_rfl)
theorem type_lstrip : typeOf (.builtin "bytes.lstrip") = pure (.type "method_descriptor") := by show builtinType _ = _; rw [builtinType_eq_fast]; kernel_rfl
theorem type_rstrip : typeOf (.builtin "bytes.rstrip") = pure (.type "method_descriptor") := by show builtinType _ = _; rw [builtinType_eq_fast]; kernel_rfl
theorem entry_lstrip : entryFor table "bytes.lstrip" = some Builtin.«bytes.lstrip» := entryFor_of_tree (by kernel_rfl)
theorem entry_rstrip : entryFor table "bytes.rstrip" = some Builtin.«bytes.rstrip» := entryFor_of_tree (by kernel_rfl)
theorem args_lstrip (a b : Value) : argsOk "bytes.lstrip" ⟨[a, b], []⟩ := by
  unfold argsOk; rw [signature?_of (id := "bytes.lstrip") (n := ['p', 'i', 'r', 't', 's', 'l']) (o := ['s', 'e', 't', 'y', 'b']) (by kernel_rfl) FB.owner_bytes]; kernel_rfl
theorem args_rstrip (a : Value) : argsOk "bytes.rstrip" ⟨[a], []⟩ := by
  unfold argsOk; rw [signature?_of (id := "bytes.rstrip") (n := ['p', 'i', 'r', 't', 's', 'r']) (o := ['s', 'e', 't', 'y', 'b']) (by kernel_rfl) FB.owner_bytes]; kernel_rfl
section
variable {b c : Array UInt8} {t u : Tok}
theorem same_eq : Bytes.Kind.same .bytes (.bytes b t) = pure (.bytes b t) := rfl
theorem strip_end {M : Model} {A : Around} {E : Value → Shared → Prop} {s : Shared} {Q : Value → Shared → Prop} {kept : List UInt8} {id : String}
    (hq : (if (kept.length == b.size) = true then Made.val (.bytes b t) else .bytes kept.toArray).post Q s) :
    wpAny M A (if (kept.length == b.size) = true then (do rule s!"{id}.unchanged"; ret (← Bytes.Kind.same .bytes (.bytes b t))) else (do ret (← Bytes.Kind.new .bytes kept.toArray))) (fun fin s' => ∃ v, fin = .done (.ret v) ∧ Q v s') E s := by
  by_cases hz : (kept.length == b.size) = true
  · rw [if_pos hz] at hq ⊢
    refine wpAny_bind (wpAny_rule ?_)
    refine wpAny_bind (wpAny_of_eq same_eq ?_)
    exact wpAny_pure ⟨_, rfl, hq⟩
  · rw [if_neg hz] at hq ⊢
    exact wpAny_bind (wpAny_mkBytes (wpAny_pure ⟨_, rfl, hq.2⟩) hq.1)
theorem gives_rstrip {kept : List UInt8} (hk : (b.toList.reverse.dropWhile Bytes.isSpace).reverse = kept) :
    Gives («bytes.rstrip» ⟨[.bytes b t], []⟩) (if (kept.length == b.size) = true then .val (.bytes b t) else .bytes kept.toArray) := by
  subst hk
  refine .of_wp fun M A E s Q hq => ?_
  show wpAny M A (selfAndSome "bytes.rstrip" "rstrip" 0 1 ⟨[.bytes b t], []⟩ >>= fun r => _) _ E s
  refine wpAny_bind (wpAny_of_eq (a := (Value.bytes b t, [])) rfl ?_)
  refine wpAny_bind (wpAny_of_eq (a := Bytes.isSpace) rfl ?_)
  refine wpAny_bind (wpAny_of_eq (a := b) rfl ?_)
  exact strip_end hq
theorem gives_lstrip {kept : List UInt8} (hk : b.toList.dropWhile c.contains = kept) :
    Gives («bytes.lstrip» ⟨[.bytes b t, .bytes c u], []⟩) (if (kept.length == b.size) = true then .val (.bytes b t) else .bytes kept.toArray) := by
  subst hk
  refine .of_wp fun M A E s Q hq => ?_
  show wpAny M A (selfAndSome "bytes.lstrip" "lstrip" 0 1 ⟨[.bytes b t, .bytes c u], []⟩ >>= fun r => _) _ E s
  refine wpAny_bind (wpAny_of_eq (a := (Value.bytes b t, [Value.bytes c u])) rfl ?_)
  show wpAny M A (Bytes.bytesLike "bytes.lstrip" (.bytes c u) >>= fun set => _) _ E s
  refine wpAny_bind (wpAny_of_eq KBd.like_eq ?_)
  refine wpAny_bind (wpAny_of_eq (a := c.contains) rfl ?_)
  refine wpAny_bind (wpAny_of_eq (a := b) rfl ?_)
  exact strip_end hq
end
/-- a sign that is no blank -/
def Solid (k : Int) : Prop := 33 ≤ k ∧ k ≤ 126
theorem solid_no_space {k : Int} (h : Solid k) : Bytes.isSpace k.toNat.toUInt8 = false := by
  have key : ∀ n : Fin 127, 33 ≤ n.val → Bytes.isSpace n.val.toUInt8 = false := by decide +kernel
  exact key ⟨k.toNat, by unfold Solid at h; omega⟩ (by unfold Solid at h; show 33 ≤ k.toNat; omega)
theorem blank_space {k : Int} (h : k = 32 ∨ k = 10 ∨ k = 9 ∨ k = 13) : Bytes.isSpace k.toNat.toUInt8 = true := by
  rcases h with rfl | rfl | rfl | rfl <;> decide
theorem byte_toNat {k : Int} (h0 : 0 ≤ k) (h1 : k < 256) : k.toNat.toUInt8.toNat = k.toNat := by
  show k.toNat % 256 = k.toNat
  omega
theorem byte_inj {c d : Int} (hc : 0 ≤ c ∧ c < 256) (hd : 0 ≤ d ∧ d < 256) (h : c.toNat.toUInt8 = d.toNat.toUInt8) : c = d := by
  have := congrArg UInt8.toNat h
  rw [byte_toNat hc.1 hc.2, byte_toNat hd.1 hd.2] at this
  omega
theorem drop_all {α : Type} {p : α → Bool} : ∀ {xs ys : List α}, (∀ x ∈ xs, p x = true) → (xs ++ ys).dropWhile p = ys.dropWhile p
  | [], _, _ => rfl
  | x :: xs, ys, h => by
    rw [List.cons_append, List.dropWhile_cons_of_pos (h x (.head _))]
    exact drop_all fun y hy => h y (.tail _ hy)
theorem drop_none {α : Type} {p : α → Bool} {xs : List α} (h : ∀ x ∈ xs, p x = false) : xs.dropWhile p = xs := by
  cases xs with
  | nil => rfl
  | cons x xs => rw [List.dropWhile_cons_of_neg (by rw [h x (.head _)]; exact Bool.false_ne_true)]
/-- what rstrip leaves: the solid front -/
theorem kept_rstrip {ls ws : List Int} (hl : ∀ k ∈ ls, Solid k) (hw : ∀ k ∈ ws, k = 32 ∨ k = 10 ∨ k = 9 ∨ k = 13) :
    ((byteArr (ls ++ ws)).toList.reverse.dropWhile Bytes.isSpace).reverse = ls.map fun n => n.toNat.toUInt8 := by
  rw [byteArr_list, List.map_append, List.reverse_append, drop_all, drop_none, List.reverse_reverse]
  · intro x hx
    obtain ⟨k, hk, rfl⟩ := List.mem_map.mp (List.mem_reverse.mp hx)
    exact solid_no_space (hl k hk)
  · intro x hx
    obtain ⟨k, hk, rfl⟩ := List.mem_map.mp (List.mem_reverse.mp hx)
    exact blank_space (hw k hk)
theorem kept_lstrip {cs ps ls : List Int} (hp : ∀ k ∈ ps, k ∈ cs) (hl : ∀ d r, ls = d :: r → ∀ c ∈ cs, (0 ≤ c ∧ c < 256) ∧ (0 ≤ d ∧ d < 256) ∧ c ≠ d) :
    (byteArr (ps ++ ls)).toList.dropWhile (byteArr cs).contains = ls.map fun n => n.toNat.toUInt8 := by
  rw [byteArr_list, List.map_append, drop_all]
  · cases ls with
    | nil => rfl
    | cons d r =>
      rw [List.map_cons, List.dropWhile_cons_of_neg]
      rw [Array.contains_iff_mem]
      intro hm
      have hm' : d.toNat.toUInt8 ∈ (byteArr cs).toList := Array.mem_toList_iff.mpr hm
      rw [byteArr_list] at hm'
      obtain ⟨c, hcm, e⟩ := List.mem_map.mp hm'
      have hx := hl d r rfl c hcm
      exact hx.2.2 (byte_inj hx.1 hx.2.1 e)
  · intro x hx
    obtain ⟨k, hk, rfl⟩ := List.mem_map.mp hx
    rw [Array.contains_iff_mem]
    refine Array.mem_toList_iff.mp ?_
    rw [byteArr_list]
    exact List.mem_map.mpr ⟨k, hp k hk, rfl⟩
section
variable {prog : Program} {w : World} {A : Around} {E : Value → Shared → Prop} {s : Shared} {M : Model} {t u : Tok}
theorem made_either {b : Array UInt8} {kept : List UInt8} {ls : List Int} {Q : Value → Shared → Prop} (hk : kept = ls.map fun n => n.toNat.toUInt8) (hs : kept.length = b.size → b = kept.toArray) (hz : ls.length ≤ 16777216)
    (h : ∀ t' k, Q (.bytes (byteArr ls) t') { heap := s.heap, gens := s.gens, drawn := s.drawn, toks := k, os := s.os }) : (if (kept.length == b.size) = true then Made.val (.bytes b t) else .bytes kept.toArray).post Q s := by
  subst hk
  by_cases hz' : ((ls.map fun n => n.toNat.toUInt8).length == b.size) = true
  · rw [if_pos hz']
    have := h t s.toks
    rw [show byteArr ls = b from (hs (by simpa using hz')).symm] at this
    exact this
  · rw [if_neg hz']
    exact ⟨by rw [sizeLine_eq]; simpa using hz, h _ _⟩
theorem rstrip {ks ls ws : List Int} {Q : Value → Shared → Prop} (e : ks = ls ++ ws) (hl : ∀ k ∈ ls, Solid k) (hw : ∀ k ∈ ws, k = 32 ∨ k = 10 ∨ k = 9 ∨ k = 13) (hz : ls.length ≤ 16777216)
    (h : ∀ t' k, Q (.bytes (byteArr ls) t') { heap := s.heap, gens := s.gens, drawn := s.drawn, toks := k, os := s.os }) : wpAny (model prog w) A (call (.builtin "bytes.rstrip") [.bytes (byteArr ks) t]) Q E s := by
  subst e
  refine call_gives slot_rstrip (typeIs_bytes _ _ _) entry_rstrip (args_rstrip _) (gives_rstrip (kept_rstrip hl hw)) (made_either rfl (fun hlen => ?_) hz h)
  have h0 : ws = [] := by
    rw [byteArr_size, List.length_map, List.length_append] at hlen
    exact List.eq_nil_of_length_eq_zero (by omega)
  subst h0
  rw [List.append_nil]
  rfl
theorem lstrip {ks ls ps cs : List Int} {Q : Value → Shared → Prop} (e : ks = ps ++ ls) (hp : ∀ k ∈ ps, k ∈ cs) (hl : ∀ d r, ls = d :: r → ∀ c ∈ cs, (0 ≤ c ∧ c < 256) ∧ (0 ≤ d ∧ d < 256) ∧ c ≠ d) (hz : ls.length ≤ 16777216)
    (h : ∀ t' k, Q (.bytes (byteArr ls) t') { heap := s.heap, gens := s.gens, drawn := s.drawn, toks := k, os := s.os }) : wpAny (model prog w) A (call (.builtin "bytes.lstrip") [.bytes (byteArr ks) t, .bytes (byteArr cs) u]) Q E s := by
  subst e
  refine call_gives slot_lstrip (typeIs_bytes _ _ _) entry_lstrip (args_lstrip _ _) (gives_lstrip (kept_lstrip hp hl)) (made_either rfl (fun hlen => ?_) hz h)
  have h0 : ps = [] := by
    rw [byteArr_size, List.length_map, List.length_append] at hlen
    exact List.eq_nil_of_length_eq_zero (by omega)
  subst h0
  rfl
theorem method_lstrip {b : Array UInt8} {pl : Sem Bool} {Q : Value × List Value → Shared → Prop} (h : Q (.builtin "bytes.lstrip", [.bytes b t]) s) : wpAny M A (getMethod (.bytes b t) "lstrip" pl) Q E s :=
  by with_reducible exact KBd.method_of (.bytes b t) (typeIs_bytes _ _ _) slot_lstrip type_lstrip KBd.noRef h
theorem method_rstrip {b : Array UInt8} {pl : Sem Bool} {Q : Value × List Value → Shared → Prop} (h : Q (.builtin "bytes.rstrip", [.bytes b t]) s) : wpAny M A (getMethod (.bytes b t) "rstrip" pl) Q E s :=
  by with_reducible exact KBd.method_of (.bytes b t) (typeIs_bytes _ _ _) slot_rstrip type_rstrip KBd.noRef h
theorem solid_nil : ∀ k ∈ ([] : List Int), Solid k := fun _ h => nomatch h
theorem solid_rep {n : Nat} {c : Int} (h : Solid c) : ∀ k ∈ List.replicate n c, Solid k := fun k hk => by rw [List.eq_of_mem_replicate hk]; exact h
theorem solid_app {ks ls : List Int} (h : ∀ k ∈ ks, Solid k) (h' : ∀ k ∈ ls, Solid k) : ∀ k ∈ ks ++ ls, Solid k := fun k hk => (List.mem_append.mp hk).elim (h k) (h' k)
theorem solid_cons {c : Int} {ls : List Int} (h : Solid c) (h' : ∀ k ∈ ls, Solid k) : ∀ k ∈ c :: ls, Solid k := fun k hk => (List.mem_cons.mp hk).elim (fun e => e ▸ h) (h' k)
theorem no_blank : ∀ k ∈ ([] : List Int), k = 32 ∨ k = 10 ∨ k = 9 ∨ k = 13 := fun _ h => nomatch h
theorem all_drop {n : Nat} {c : Int} : ∀ k ∈ List.replicate n c, k ∈ [c] := fun k hk => by rw [List.eq_of_mem_replicate hk]; exact .head _
theorem none_drop {cs : List Int} : ∀ k ∈ ([] : List Int), k ∈ cs := fun _ h => nomatch h
theorem left_nil {cs : List Int} : ∀ d r, ([] : List Int) = d :: r → ∀ c ∈ cs, (0 ≤ c ∧ c < 256) ∧ (0 ≤ d ∧ d < 256) ∧ c ≠ d := fun _ _ e => nomatch e
theorem left_any {ls : List Int} : ∀ d r, ls = d :: r → ∀ c ∈ ([] : List Int), (0 ≤ c ∧ c < 256) ∧ (0 ≤ d ∧ d < 256) ∧ c ≠ d := fun _ _ _ _ h => nomatch h
theorem left_cons {c d : Int} {ls : List Int} (hc : Solid c) (hd : Solid d) (hn : c ≠ d) : ∀ d' r, d :: ls = d' :: r → ∀ c' ∈ [c], (0 ≤ c' ∧ c' < 256) ∧ (0 ≤ d' ∧ d' < 256) ∧ c' ≠ d' := by
  intro d' r e c' hc'
  cases e
  rw [List.mem_singleton.mp hc']
  unfold Solid at hc hd
  exact ⟨by omega, by omega, hn⟩
theorem mid_split (p q : Nat) (c d : Int) : List.replicate p c ++ [d] ++ List.replicate q c = List.replicate p c ++ (d :: List.replicate q c) := by
  rw [List.append_assoc]
  rfl
end
end Mine
end
section
open PySem PySem.W PyProof.Rows
namespace Mine
section
variable {prog : Program} {w : World} {A : Around} {E : Value → Shared → Prop} {s : Shared} {M : Model} {h₀ : Heap} {L D : Addr} {m : Str → Option Value} {news : List (Addr × Obj)}
theorem callWith_kw {pos : Pos} {u : Addr} {first : List Value} {args : List (Bool × Sem Value)} {kws : List (Option Str × Sem Value)} {Q : Value → Shared → Prop} (hplain : (args.any (·.1) || kws.any (·.1.isNone)) = false)
    (h : wpAny M A (evalArgs (.ref u) true args kws) (fun x s₁ => KFB.StandsAt u s₁.heap ∧ wpAny M A (call (.ref u) (first ++ x.pos) x.kw) Q E s₁) E s) : wpAny M A (callWith pos (.ref u) first args kws) Q E s := by
  unfold callWith
  refine wpAny_bind (wpAny_holding (wpAny_mono h (fun x s₁ h₁ => wpAny_bind (wpAny_standAt ?_)) fun _ _ x => x))
  obtain ⟨ho, hcall⟩ := h₁
  simp only [hplain]
  refine wpAny_bind (m := keeperOf (.ref u)) ?_
  unfold keeperOf
  refine wpAny_bind (wpAny_load ho ?_)
  simp only [KFB.bound, show (Value.type "builtin_function_or_method" != Value.type "method") = true by decide, show (Value.type "builtin_function_or_method" == Value.type "builtin_function_or_method" || Value.type "builtin_function_or_method" == Value.type "method-wrapper") = true by decide, if_true]
  refine wpAny_pure ?_
  exact wpAny_bind (wpAny_mono hcall (fun r s₂ hr => wpAny_bind (wpAny_holding (wpAny_point (wpAny_pure hr)))) fun _ _ x => x)
theorem callWith_KW {pos : Pos} {u : Addr} {first : List Value} {env : Env} {e : Expr} {rest : List Expr} {kws : List Keyword} {Q : Value → Shared → Prop} (_N : News h₀ L s.heap news) (_hm : (u, KFB.bound) ∈ news) (hall : (backToKw pos (keywordEach kws env)).all (·.1.isSome) = true)
    (h : wpAny M A (spliced (backTo pos (starEach (e :: rest) env))) (fun vs s₁ => wpAny M A (evalAll ((backToKw pos (keywordEach kws env)).map (·.2)))
      (fun ks s₂ => KFB.StandsAt u s₂.heap ∧ wpAny M A (call (.ref u) (first ++ vs) (((backToKw pos (keywordEach kws env)).filterMap (·.1)).zip ks)) Q E s₂) E s₁) E s)
    (hplain : ((backTo pos (starEach (e :: rest) env)).any (·.1) || (backToKw pos (keywordEach kws env)).any (·.1.isNone)) = false := by rfl) (he : starEach (e :: rest) env = (false, eval e env) :: starEach rest env := by rfl) :
    wpAny M A (callWith pos (.ref u) first (backTo pos (starEach (e :: rest) env)) (backToKw pos (keywordEach kws env))) Q E s :=
  callWith_kw hplain (evalArgs_kw2 hall h he)
theorem check_kw {b : Array UInt8} {t u : Tok} : checkBoundCall "int.from_bytes" ⟨[.type "int", .bytes b t], [(PySem.Str.ofString "byteorder", .str (PySem.Str.ofString "big") u)]⟩ = pure () := by first | kernel_rfl | rfl
theorem tree_empty {t u : Tok} {P : Fin → Shared → Prop} (h : ∀ t' k, P (.done (.ret (.int 0 t'))) { heap := s.heap, gens := s.gens, drawn := s.drawn, toks := k, os := s.os }) :
    wpAny M A (Builtin.«int.from_bytes» ⟨[.type "int", .bytes (byteArr []) t], [(PySem.Str.ofString "byteorder", .str (PySem.Str.ofString "big") u)]⟩) P E s := by
  unfold Builtin.«int.from_bytes»
  refine wpAny_bind (wpAny_of_eq (a := true) KFB.type_int ?_)
  refine KFB.if_not rfl ?_
  refine wpAny_bind (wpAny_of_eq (a := true) F.conv_sub_int ?_)
  refine KFB.if_not rfl ?_
  refine wpAny_bind (wpAny_of_eq (a := [some (.bytes (byteArr []) t), some (.str (PySem.Str.ofString "big") u), none]) (by kernel_rfl) ?_)
  refine wpAny_bind (wpAny_of_eq (a := PySem.Str.ofString "big") (by kernel_rfl) ?_)
  refine wpAny_bind (wpAny_of_eq (a := false) rfl ?_)
  refine wpAny_bind (wpAny_of_eq (a := false) (by kernel_rfl) ?_)
  refine wpAny_bind (wpAny_of_eq (a := byteArr []) rfl ?_)
  refine wpAny_bind (KFB.grown (n := 0) (by decide) ?_)
  refine KFB.if_so (by decide +kernel) ?_
  exact wpAny_bind (wpAny_pure (wpAny_pure (h _ _)))
theorem fromEmpty {x : Addr} {t u : Tok} {Q : Value → Shared → Prop} (ho : KFB.StandsAt x s.heap)
    (h : ∀ t' k, Q (.int 0 t') { heap := s.heap, gens := s.gens, drawn := s.drawn, toks := k, os := s.os }) : wpAny (model prog w) A (call (.ref x) [.bytes (byteArr []) t] [(PySem.Str.ofString "byteorder", .str (PySem.Str.ofString "big") u)]) Q E s := by
  refine wpAny_call (codeAny_of_tree ?_)
  show wpAny _ A.in1 (callAny (.ref x) ⟨[.bytes (byteArr []) t], [(PySem.Str.ofString "byteorder", .str (PySem.Str.ofString "big") u)]⟩) _ _ s
  simp only [callAny]
  refine wpAny_bind (wpAny_load ho ?_)
  simp only [KFB.bound, show (Value.type "builtin_function_or_method" == Value.type "method" || Value.type "builtin_function_or_method" == Value.type "builtin_function_or_method" || Value.type "builtin_function_or_method" == Value.type "method-wrapper") = true by decide, if_true]
  refine KFB.if_so (by decide) ?_
  refine wpAny_bind (wpAny_of_eq (a := ()) check_kw ?_)
  refine wpAny_bind (wpAny_pure (wpAny_pure ?_))
  exact ⟨KFB.quiet_fb, codeAny_builtin KFB.entry_fb (tree_empty h)⟩
theorem subZero {i : Int} {t u : Tok} {Q : Value → Shared → Prop} (h : ∀ t' k, Q (.int i t') { heap := s.heap, gens := s.gens, drawn := s.drawn, toks := k, os := s.os }) : wpAny (model prog w) A (binaryOp .Sub (.int i t) (.int ((0 : Nat) : Int) u)) Q E s := by
  refine sub_int ?_
  rw [show i - ((0 : Nat) : Int) = i by omega]
  exact h _ _
theorem addBytes {ks ls ms : List Int} {t u : Tok} {Q : Value → Shared → Prop} (e : ks ++ ls = ms) (hk : ks.length ≤ 1000) (hl : ls.length ≤ 1000) (h : ∀ t' k, Q (.bytes (byteArr ms) t') { heap := s.heap, gens := s.gens, drawn := s.drawn, toks := k, os := s.os }) :
    wpAny (model prog w) A (binaryOp .Add (.bytes (byteArr ks) t) (.bytes (byteArr ls) u)) Q E s := by
  subst e
  refine KBy.add_bytes (by rw [byteArr_size, byteArr_size]; omega) fun t' k => ?_
  rw [← byteArr_app]
  exact h t' k
theorem gives_mulSame {b : Array UInt8} {n : Int} {t u : Tok} (hf : Builtin.Bytes.fitsIndex n = true) (h63 : ¬ b.size * n.toNat ≥ 2 ^ 63) (he : (b.size * n.toNat == b.size) = true) : Gives (Builtin.«bytes.__mul__» ⟨[.bytes b t, .int n u], []⟩) (.val (.bytes b t)) := by
  refine .of_wp fun M A E s Q hq => ?_
  show wpAny M A (Builtin.Bytes.repeatArgs .bytes "__mul__" ⟨[.bytes b t, .int n u], []⟩ >>= fun r => _) _ E s
  refine wpAny_bind (wpAny_of_eq (BMul.args_eq hf) ?_)
  refine wpAny_bind (wpAny_of_eq (a := b) rfl ?_)
  show wpAny M A (if b.size * n.toNat ≥ 2 ^ 63 then _ else _) _ E s
  rw [if_neg h63]
  refine bm_if_true he ?_
  refine wpAny_bind (wpAny_typeOf (typeIs_bytes s b t) ?_)
  exact wpAny_bind (wpAny_rule (wpAny_pure ⟨_, rfl, hq⟩))
theorem mulSame {b : Array UInt8} {n : Int} {t u : Tok} {Q : Value → Shared → Prop} (hf : Builtin.Bytes.fitsIndex n = true) (h63 : ¬ b.size * n.toNat ≥ 2 ^ 63) (he : (b.size * n.toNat == b.size) = true) (h : ∀ t' k, Q (.bytes b t') { heap := s.heap, gens := s.gens, drawn := s.drawn, toks := k, os := s.os }) :
    wpAny (model prog w) A (binaryOp .Mult (.bytes b t) (.int n u)) Q E s :=
  wpAny_binaryOp_repeat (T := "bytes") (U := "int") (by decide) (fun s' => typeIs_bytes s' _ t) (fun s' => typeIs_int s' _ u) BMul.noFill F.fills_int_mul F.slot_int_rmul BMul.repeats F.slot_int_index.lookup
    (call_gives F.slot_int_rmul (typeIs_int s _ u) F.entry_int_rmul (F.args_int_rmul_2 _ _) (BMul.int_declines _ u _ t)
      ⟨rfl, call_gives BMul.slot_mul (typeIs_bytes s _ t) BMul.entry_mul (BMul.args_mul _ _) (gives_mulSame hf h63 he) (h _ _)⟩)
theorem mulEmpty {n : Nat} {t u : Tok} {Q : Value → Shared → Prop} (hn : n ≤ 1000) (h : ∀ t' k, Q (.bytes (byteArr []) t') { heap := s.heap, gens := s.gens, drawn := s.drawn, toks := k, os := s.os }) :
    wpAny (model prog w) A (binaryOp .Mult (.bytes (byteArr []) t) (.int (n : Int) u)) Q E s := by
  have e0 : (byteArr []).size = 0 := rfl
  generalize byteArr [] = b at *
  refine mulSame (by simp only [Builtin.Bytes.fitsIndex, Bool.and_eq_true, decide_eq_true_eq]; omega) (by rw [e0]; omega) (by rw [e0, Nat.zero_mul]; rfl) h
end
end Mine
end
section
open PySem PySem.W PyProof.Rows
namespace Mine
open PySem.Builtin
theorem bytes_no_index : typeLookup (.type "bytes") "__index__" = pure none := by rw [typeLookup_type, builtinLookup_eq_fast]; kernel_rfl
theorem typeName_bytes : typeName (.type "bytes") = pure "bytes" := by unfold typeName; rw [find?_eq_fast]; kernel_rfl
theorem find_none : Bytes.find? (byteArr []) (byteArr [32]) 0 (byteArr []).size = none := by decide +kernel
theorem find_one {c : Int} (h : Solid c) : Bytes.find? (byteArr [c]) (byteArr [32]) 0 (byteArr [c]).size = none := by
  have key : ∀ n : Fin 127, 33 ≤ n.val → Bytes.find? ([n.val.toUInt8].toArray) (byteArr [32]) 0 ([n.val.toUInt8].toArray).size = none := by decide +kernel
  exact key ⟨c.toNat, by unfold Solid at h; omega⟩ (by unfold Solid at h; show 33 ≤ c.toNat; omega)
section
variable {prog : Program} {w : World} {A : Around} {E : Value → Shared → Prop} {s : Shared} {M : Model} {h₀ : Heap} {L D : Addr} {m : Str → Option Value} {news : List (Addr × Obj)} {b c : Array UInt8} {t u : Tok}
theorem typeNameOfCut_bytes {n : Nat} {Q : String → Shared → Prop} (h : Q "bytes" s) : wpAny M A (typeNameOfCut n (.bytes b t)) Q E s := by
  unfold typeNameOfCut shownTypeOf
  refine wpAny_bind (wpAny_bind (wpAny_typeOf (typeIs_bytes _ b t) ?_))
  simp only [show (Value.type "bytes" == Value.type "builtin_function_or_method") = false by decide, Bool.false_eq_true, if_false]
  refine wpAny_pure ?_
  rw [show typeNameCut n (.type "bytes") = typeName (.type "bytes") from rfl, typeName_bytes]; exact wpAny_pure h
theorem asIndex_bytes {Q : Int → Shared → Prop} (hh : A.handled = none) (h : ∀ h' tk e, Heap.NewExc s.heap h' e "TypeError" → E (.ref e) { s with heap := h', toks := tk }) : wpAny M A (asIndex (.bytes b t)) Q E s := by
  unfold asIndex
  refine wpAny_bind (wpAny_of_eq (a := none) rfl ?_)
  unfold callSpecial?
  refine wpAny_bind (wpAny_bind (wpAny_specialOf (typeIs_bytes _ b t) bytes_no_index (wpAny_pure ?_)))
  refine wpAny_bind (typeNameOfCut_bytes ?_)
  exact raiseError_exc excClass_TypeError hh h (by decide)
theorem meets_contains (hh : A.handled = none) (hf : Bytes.find? b c 0 b.size = none)
    {R : Result → Shared → Prop} (h : ∀ h' k, (∀ a o, s.heap.get? a = some o → h'.get? a = some o) → R (.ok (.ret (.bool false))) { heap := h', gens := s.gens, drawn := s.drawn, toks := k, os := s.os }) :
    wpAny (model prog w) A («bytes.__contains__» ⟨[.bytes b t, .bytes c u], []⟩) (fun fin s' => ∃ v, fin = .done (.ret v) ∧ R (.ok (.ret v)) s') (fun e s' => R (.error e) s') s := by
  show wpAny _ _ (Bytes.containsIn "bytes.__contains__" (.bytes b t) (.bytes c u) >>= fun r => _) _ _ s
  refine wpAny_bind ?_
  unfold Bytes.containsIn
  refine wpAny_bind (wpAny_attempt (asIndex_bytes hh fun h' tk e hx => ?_))
  refine wpAny_bind (wpAny_of_eq KBy.buffer_eq ?_)
  refine wpAny_bind (wpAny_of_eq KBy.buffer_eq ?_)
  refine wpAny_bind (wpAny_rule ?_)
  rw [hf]
  exact wpAny_pure (wpAny_pure ⟨_, rfl, h _ _ hx.1⟩)
theorem notIn {ks : List Int} {Q : Value → Shared → Prop} (F : Fr h₀ L s.heap m) (N : News h₀ L s.heap news) (hh : A.handled = none) (hf : Bytes.find? (byteArr ks) (byteArr [32]) 0 (byteArr ks).size = none)
    (h : ∀ h' k, Fr h₀ L h' m → News h₀ L h' news → Q (.bool true) { heap := h', gens := s.gens, drawn := s.drawn, toks := k, os := s.os }) :
    wpAny (model prog w) A (compareOp .NotIn (.bytes (byteArr [32]) t) (.bytes (byteArr ks) u)) Q E s := by
  show wpAny _ _ (do return .bool (!(← contains (.bytes (byteArr ks) u) (.bytes (byteArr [32]) t)))) Q E s
  refine wpAny_bind (wpAny_contains_slot (typeIs_bytes _ _ _) FB.slot_bytes_contains (call_meets (S := fun A R s' => A = _ ∧ s' = s ∧ ∀ h' k, (∀ a o, s.heap.get? a = some o → h'.get? a = some o) → R (.ok (.ret (.bool false))) { heap := h', gens := s.gens, drawn := s.drawn, toks := k, os := s.os })
    FB.slot_bytes_contains (typeIs_bytes _ _ _) FB.entry_bytes_contains (FB.args_bytes_contains_2 _ _) (.of_wp fun prog w A' R s' hS => ?_) ⟨rfl, rfl, fun h' k hk => ?_⟩))
  · obtain ⟨hA, rfl, hS⟩ := hS
    subst hA
    exact meets_contains (A := A'.in1) (show A'.in1.handled = none from hh) hf hS
  · exact wpAny_pure (wpAny_pure (h h' k (F.keptAll hk) (N.grown hk)))
theorem isi_bytes_str {Q : Value → Shared → Prop} (h : ∀ k, Q (.bool false) { heap := s.heap, gens := s.gens, drawn := s.drawn, toks := k, os := s.os }) : wpAny (model prog w) A (call (.builtin "isinstance") [.bytes b t, .type "str"]) Q E s :=
  kia_one (K := []) kitx_bytes (fun _ _ e => nomatch e) trivial (by decide +kernel) (fun e => nomatch e) h
theorem isi_bytes_bytes {Q : Value → Shared → Prop} (h : ∀ k, Q (.bool true) { heap := s.heap, gens := s.gens, drawn := s.drawn, toks := k, os := s.os }) : wpAny (model prog w) A (call (.builtin "isinstance") [.bytes b t, .type "bytes"]) Q E s :=
  kia_one (K := []) kitx_bytes (fun _ _ e => nomatch e) trivial (by decide +kernel) (fun e => nomatch e) h
theorem isi_str_str {x : Str} {Q : Value → Shared → Prop} (h : ∀ k, Q (.bool true) { heap := s.heap, gens := s.gens, drawn := s.drawn, toks := k, os := s.os }) : wpAny (model prog w) A (call (.builtin "isinstance") [.str x t, .type "str"]) Q E s :=
  kia_one (K := []) kitx_str (fun _ _ e => nomatch e) trivial (by decide +kernel) (fun e => nomatch e) h
theorem isi_int_bool {i : Int} {Q : Value → Shared → Prop} (h : ∀ k, Q (.bool false) { heap := s.heap, gens := s.gens, drawn := s.drawn, toks := k, os := s.os }) : wpAny (model prog w) A (call (.builtin "isinstance") [.int i t, .type "bool"]) Q E s :=
  kia_one (K := []) kitx_int (fun _ _ e => nomatch e) trivial (by decide +kernel) (fun e => nomatch e) h
end
end Mine
end
section
open PySem PySem.W PyProof.Rows
namespace Mine
open PySem.Builtin
set_option maxHeartbeats 4000000 in
theorem meets_enum_new (b : Array UInt8) (t : Tok) :
    Meets (Builtin.«enumerate.__new__» ⟨[.type "enumerate", .bytes b t], []⟩) (fun _ R s =>
      R (.ok (.ret (.ref (s.heap.push { cls := .type "bytes_iterator", data := .fields #[.bytes b t, .int 0 0] }).objs.size)))
        { s with heap := (s.heap.push { cls := .type "bytes_iterator", data := .fields #[.bytes b t, .int 0 0] }).push { cls := .type "enumerate", data := .fields #[.none, .bool false, .ref s.heap.objs.size, rawInt 0, .none, .none] } }) :=
  .of_wp fun prog w A R s h => by
    obtain ⟨hp, g, d, tk, os⟩ := s
    have hsub := sub_enumerate
    wp_walk
    refine wpAny_stack_any fun st => wpAny_pure ?_
    split
    · rename_i c _ _ _ _ _
      cases (c == Value.type "enumerate")
      · wp_walk using KBw.pyIter_bytes
        exact ⟨_, rfl, h⟩
      · wp_walk using KBw.pyIter_bytes
        exact ⟨_, rfl, h⟩
    · wp_walk using KBw.pyIter_bytes
      exact ⟨_, rfl, h⟩
section
variable {prog : Program} {w : World} {A : Around} {E : Value → Shared → Prop} {s : Shared} {M : Model} {h₀ : Heap} {L D : Addr} {m : Str → Option Value} {news : List (Addr × Obj)} {b : Array UInt8} {t : Tok}
theorem next_item {it : Addr} {i : Nat} {c : UInt8} {Q : Value → Shared → Prop} (hit : KBw.IsBytesIter s.heap it b t i) (hx : b[i]? = some c)
    (hQ : ∀ h', KBw.IsBytesIter h' it b t (i + 1) → Heap.SameBut it s.heap h' → Q (.int (c.toNat : Int) s.toks) { s with heap := h', toks := s.toks + 1 }) : wpAny (model prog w) A (SmallTypes.nextOf (.ref it)) Q E s := by
  obtain ⟨o, ho, hc, hd⟩ := id hit
  unfold SmallTypes.nextOf
  refine wpAny_bind (wpAny_callSpecial?_slot (name := Str.ofString "__next__") (KBw.iter_typeIs hit) KBw.slot_next
    (wpAny_call_entry KBw.slot_next (KBw.iter_typeIs hit) KBw.entry_next ?_ (KBw.args_next _)))
  show wpAny _ _ (field (.ref it) 0 >>= _) _ _ s
  refine wpAny_bind (wpAny_field ho hd (x := .bytes b t) rfl ?_)
  show wpAny _ _ (if (Value.bytes b t == Value.none) = true then _ else _) _ _ s
  rw [if_neg (show ¬ ((Value.bytes b t == Value.none) = true) from Bool.false_ne_true)]
  show wpAny _ _ (field (.ref it) 1 >>= _) _ _ s
  refine wpAny_bind (wpAny_field ho hd (x := .int i 0) rfl ?_)
  refine wpAny_bind (wpAny_of_eq (a := b) rfl ?_)
  simp only [Int.toNat_natCast, hx]
  refine wpAny_bind (wpAny_setField ho hd (by simp) (wpAny_bind (wpAny_mkInt (wpAny_pure ⟨_, rfl, wpAny_pure (hQ _ ?_ (Heap.SameBut.update ..))⟩))))
  exact ⟨_, Heap.get?_update_self _ ho (Obj.isFreed_of_fields (Obj.data_mapFields hd _)), (Obj.cls_mapFields ..).trans hc, by
    rw [Obj.data_mapFields hd]; simp [rawInt]⟩
theorem next_end {it : Addr} {i : Nat} {Q : Value → Shared → Prop} (hh : A.handled = none) (hit : KBw.IsBytesIter s.heap it b t i) (hx : b[i]? = none)
    (hE : ∀ h' e, Heap.ExtBut it s.heap h' → (∃ o, h'.get? e = some o ∧ o.cls = .type "StopIteration") → E (.ref e) { s with heap := h' }) : wpAny (model prog w) A (SmallTypes.nextOf (.ref it)) Q E s := by
  obtain ⟨o, ho, hc, hd⟩ := id hit
  unfold SmallTypes.nextOf
  refine wpAny_bind (wpAny_callSpecial?_slot (name := Str.ofString "__next__") (KBw.iter_typeIs hit) KBw.slot_next
    (wpAny_call_entry KBw.slot_next (KBw.iter_typeIs hit) KBw.entry_next ?_ (KBw.args_next _)))
  show wpAny _ _ (field (.ref it) 0 >>= _) _ _ s
  refine wpAny_bind (wpAny_field ho hd (x := .bytes b t) rfl ?_)
  show wpAny _ _ (if (Value.bytes b t == Value.none) = true then _ else _) _ _ s
  rw [if_neg (show ¬ ((Value.bytes b t == Value.none) = true) from Bool.false_ne_true)]
  show wpAny _ _ (field (.ref it) 1 >>= _) _ _ s
  refine wpAny_bind (wpAny_field ho hd (x := .int i 0) rfl ?_)
  refine wpAny_bind (wpAny_of_eq (a := b) rfl ?_)
  simp only [Int.toNat_natCast, hx]
  refine wpAny_bind (wpAny_rule (wpAny_bind (wpAny_setField ho hd (by simp) ?_)))
  show wpAny _ _ (newExc (.type "StopIteration") [] >>= _) _ _ _
  refine wpAny_bind ?_
  simp only [newExc, newTuple]
  refine wpAny_bind (wpAny_newObj_type ?_ (by size_fits))
  refine wpAny_bind (m := firstArgMember _ _) (wpAny_of_eq (a := Value.none) (by first | rfl | (simp only [firstArgMember]; rfl)) ?_)
  refine wpAny_newObj_type ?_ (by size_fits)
  simp only [raiseNew]
  refine wpAny_bind (wpAny_handled ?_)
  first | rw [show A.in1.handled = none from hh] | rw [hh]
  refine wpAny_bind (wpAny_pure (wpAny_throw ?_))
  exact hE _ _ (((Heap.SameBut.update ..).extBut.push _).push _) ⟨_, Heap.get?_push_size _ rfl, rfl⟩
end
theorem drawsBytes {prog : Program} {w : World} {A : Around} (hh : A.handled = none) (it : Addr) (b : Array UInt8) (t : Tok) :
    Draws prog w A it [it] b.size (fun i v => ∃ c u, b[i]? = some c ∧ v = .int (c.toNat : Int) u) (fun i h => KBw.IsBytesIter h it b t i) where
  live := fun _ _ st => let ⟨o, ho, _⟩ := st; ⟨o, ho⟩
  frame := fun _ _ _ st hk => let ⟨o, ho, r⟩ := st; ⟨o, hk it (by simp) o ho, r⟩
  item := fun i s Q E hi st hQ => by
    refine next_item st (c := b[i]) (by simp [hi]) fun h' hit' hs' => ?_
    exact hQ _ h' (s.toks + 1) ⟨_, _, by simp [hi], rfl⟩ hit' hs'
  done := fun s Q E st hE => next_end hh st (by simp) hE
abbrev enumObj (it : Addr) : Obj := { cls := .type "enumerate", data := .fields #[.none, .bool false, .ref it, rawInt 0, .none, .none] }
abbrev bytesIt (b : Array UInt8) (t : Tok) : Obj := { cls := .type "bytes_iterator", data := .fields #[.bytes b t, .int 0 0] }
section
variable {prog : Program} {w : World} {A : Around} {E : Value → Shared → Prop} {s : Shared} {M : Model} {h₀ : Heap} {L D : Addr} {m : Str → Option Value} {news : List (Addr × Obj)} {b : Array UInt8} {t : Tok}
theorem enumNew {Q : Value → Shared → Prop} (Fm : Fr h₀ L s.heap m) (N : News h₀ L s.heap news)
    (h : ∀ h' it, Fr h₀ L h' m → News h₀ L h' ((it + 1, enumObj it) :: (it, bytesIt b t) :: news) → (∀ p ∈ news, p.1 < it) → Q (.ref (it + 1)) { heap := h', gens := s.gens, drawn := s.drawn, toks := s.toks, os := s.os }) :
    wpAny (model prog w) A (call (.type "enumerate") [.bytes b t]) Q E s := by
  refine callType_new F.called_enumerate (by decide) (F.typeCall_enumerate_1 _) (F.newCall_enumerate_1 _) (fun obj => F.args_object_init_2 obj _) F.entry_enumerate_new
    (meets_enum_new b t) ?_
  have hz : (s.heap.push (bytesIt b t)).objs.size = s.heap.objs.size + 1 := Heap.size_push ..
  have F1 := Fm.push (bytesIt b t)
  have N1 := News.push Fm N (bytesIt b t)
  have F2 := F1.push (enumObj s.heap.objs.size)
  have N2 := News.push F1 N1 (enumObj s.heap.objs.size)
  show _ ∧ _
  rw [hz] at N2 ⊢
  exact ⟨⟨_, (N2 _ (.head _)).1, rfl⟩, h _ _ F2 N2 fun p hp => Heap.lt_size (N p hp).1⟩
end
end Mine
end
section
open PySem PySem.W PyProof.Rows PySem.Calls
namespace Mine
section
variable {prog : Program} {w : World} {A : Around} {R : Result → Shared → Prop} {s : Shared}
theorem loopPair {kx vx iter : Expr} {elts : List Expr} {x1} {tp : Pos} {scope : Scope} {pos : Pos} {it : Value} {D : Addr} {env : Env} (I : Nat → Shared → Prop)
    (turn : ∀ n s, I n s → wpAny (model prog w) A (pyNext it) (fun r s₁ => match r with
      | none => R (.ok .next) s₁
      | some v => wpAny (model prog w) A (letOwnedTupleGo (.Tuple elts x1 tp) it v) (fun _ s₁' => wpAny (model prog w) A (assign (.Tuple elts x1 tp) env v) (fun _ s₂ =>
          wpAny (model prog w) A (eval kx env) (fun kv s₄ => wpAny (model prog w) A (eval vx env) (fun vv s₅ =>
              wpAny (model prog w) A (dictSet D kv vv) (fun _ s₆ => ∃ m, m < n ∧ I m s₆) (notedBy (model prog w) A env fun e s' => R (.error e) s') s₅) (notedBy (model prog w) A env fun e s' => R (.error e) s') s₄) (notedBy (model prog w) A env fun e s' => R (.error e) s') s₂)
          (notedBy (model prog w) A env fun e s' => R (.error e) s') s₁') (notedBy (model prog w) A env fun e s' => R (.error e) s') s₁) (notedBy (model prog w) A env fun e s' => R (.error e) s') s)
    (n : Nat) (h : I n s) : codeAny (model prog w) A (.compLoop (.DictComp kx vx [⟨.Tuple elts x1 tp, iter, [], 0⟩] scope pos) 0 it (.ref D) env) R s := by
  refine codeAny_loop rfl I (fun n s hI => ?_) n h
  show wpAny _ A ((compTurn (.DictComp kx vx [⟨.Tuple elts x1 tp, iter, [], 0⟩] scope pos) 0 it (.ref D) env).onRaise (fun x => do noteFrame x env; theTreesLotGoes x)) _ _ s
  refine wpAny_noted ?_
  rw [compTurn_dict]
  refine wpAny_bind (wpAny_standAt (wpAny_bind (wpAny_mono (turn n s hI) (fun r s₁ h₁ => ?_) fun _ _ h' => h')))
  cases r with
  | none => exact wpAny_pure h₁
  | some v =>
    refine wpAny_bind (wpAny_mono h₁ (fun _ s₁' h₁' => ?_) fun _ _ h' => h')
    refine wpAny_bind (wpAny_mono h₁' (fun _ s₂ h₂ => wpAny_bind (wpAny_mono (wpAny_tests_nil (Q := fun ok s₃ => ok = true ∧ s₃ = s₂) ⟨rfl, rfl⟩) (fun ok s₃ h₃ => ?_) fun _ _ h' => h')) fun _ _ h' => h')
    obtain ⟨rfl, rfl⟩ := h₃
    exact wpAny_bind (wpAny_bind (wpAny_mono h₂ (fun kv s₄ h₄ => wpAny_bind (wpAny_holding (wpAny_mono h₄ (fun vv s₅ h₅ => wpAny_bind (wpAny_standAt (wpAny_holding (wpAny_mono h₅ (fun _ s₆ h₆ => wpAny_pure ⟨rfl, h₆⟩) fun _ _ h' => h')))) fun _ _ h' => h'))) fun _ _ h' => h'))
end
section
variable {prog : Program} {w : World} {A : Around} {R : Result → Shared → Prop} {s : Shared}
theorem loopWalk {xi xc : Str} {pi pc p1 p2 tp : Pos} {x1} {iter : Expr} {scope : Scope} {pos : Pos} {e D : Addr} {fp wr : List Addr} {n : Nat} {Pt : Nat → Array Value → Prop} {St : Nat → Heap → Prop} {Mid : Nat → Addr → Heap → Prop}
    {cenv : Env} {m : Str → Option Value} (hh : A.handled = none) (W : WalksT prog w A e fp wr n Pt St Mid)
    (hxi : cenv.kindOf xi = some .local) (hxc : cenv.kindOf xc = some .local) (hic : xi ≠ xc) (hk : cenv.scope.kind = .function)
    (hdi : (xi == ("__debug__" : Str)) = false) (hdc : (xc == ("__debug__" : Str)) = false)
    (hp : (cenv.scope.kind == .class || (cenv.scope.kind == .module && cenv.locals != cenv.globals)) = false)
    (hDC : D ≠ cenv.locals) (hDf : D ∉ fp) (hCf : cenv.locals ∉ fp)
    (hst : St 0 s.heap) (hacc : s.heap.DictOf (intKind prog w) D []) (hn : s.heap.Ns cenv.locals m)
    (Inv : Nat → List (Int × Value) → Prop) (h0 : Inv 0 [])
    (hstep : ∀ i vals kvs, i < n → Pt i vals → Inv i kvs → ∃ a ta c tc, vals = #[.int a ta, .int c tc] ∧ Inv (i + 1) (stored kvs c (.int a ta)))
    (hlen : ∀ i kvs, Inv i kvs → kvs.length ≤ i) (hsz : n ≤ sizeLine)
    (hR : ∀ h' tk m' kvs, h'.Ns cenv.locals m' → h'.DictOf (intKind prog w) D kvs → Inv n kvs → (∀ b o, b ≠ cenv.locals → b ∉ wr → b ≠ D → s.heap.get? b = some o → h'.get? b = some o) → R (.ok .next) { s with heap := h', toks := tk }) :
    codeAny (model prog w) A (.compLoop (.DictComp (.Name xc p1) (.Name xi p2) [⟨.Tuple [.Name xi pi, .Name xc pc] x1 tp, iter, [], 0⟩] scope pos) 0 (.ref e) (.ref D) cenv) R s := by
  refine loopPair
    (fun k s' => ∃ h' tk m' kvs i, s' = { s with heap := h', toks := tk } ∧ i ≤ n ∧ k = n + 1 - i ∧ St i h' ∧ h'.DictOf (intKind prog w) D kvs ∧ h'.Ns cenv.locals m' ∧ Inv i kvs ∧
      ∀ b o, b ≠ cenv.locals → b ∉ wr → b ≠ D → s.heap.get? b = some o → h'.get? b = some o) ?_ (n + 1)
    ⟨s.heap, s.toks, m, [], 0, rfl, Nat.zero_le _, rfl, hst, hacc, hn, h0, fun _ _ _ _ _ e => e⟩
  rintro k s' ⟨H, tk, m', kvs, i, rfl, hi, rfl, hst', hacc', hn', hI, hkp⟩
  have hCw : cenv.locals ∉ wr := fun h => hCf (W.sub _ h)
  have hDw : D ∉ wr := fun h => hDf (W.sub _ h)
  by_cases hlt : i < n
  · refine W.item i _ _ _ hlt hst' fun T vals h₁ tk₁ hPt hTs hT hMid hk₁ => ?_
    refine W.go _ _ _ i T _ _ _ hMid fun h₂ hst₂ hk₂ => ?_
    obtain ⟨a, ta, c, tc, rfl, hI'⟩ := hstep i vals kvs hlt hPt hI
    have hT₂ : IsTup h₂ T #[.int a ta, .int c tc] := by
      obtain ⟨o, ho, r⟩ := hT
      exact ⟨o, hk₂ _ _ (W.apart _ _ _ hMid) ho, r⟩
    have hn₂ : h₂.Ns cenv.locals m' := (hn'.at' fun o e => hk₁ _ o hCw e).at' fun o e => hk₂ _ o hCw e
    refine assign_Tuple_tuple hh hT₂ rfl rfl fun h₅ he => ?_
    have he' : ∀ b o, h₂.get? b = some o → h₅.get? b = some o := fun b o e => he b o (Nat.ne_of_lt (Heap.lt_size e)) e
    refine assignInOrder_cons (wpAny_assign_Name (wpAny_storeName_local hxi (hn₂.at' fun o e => he' _ o e) (fun h₆ hn₆ hs₆ => ?_) hp))
    refine assignInOrder_cons (wpAny_assign_Name (wpAny_storeName_local hxc hn₆ (fun h₇ hn₇ hs₇ => ?_) hp))
    refine assignInOrder_nil ?_
    refine wpAny_Name (wpAny_loadName_local hk hxc hn₇ (v := .int c tc) (by simp) ?_) hdc
    refine wpAny_Name (wpAny_loadName_local hk hxi hn₇ (v := .int a ta) (by simp [hic]) ?_) hdi
    have up : ∀ b o, b ≠ cenv.locals → b ∉ wr → H.get? b = some o → h₇.get? b = some o := fun b o hbC hbw e =>
      hs₇.extBut b o hbC (hs₆.extBut b o hbC (he' _ _ (hk₂ b o hbw (hk₁ b o hbw e))))
    have hacc₇ : h₇.DictOf (intKind prog w) D kvs := hacc'.at fun o e => up D o hDC hDw e
    have hst₇ : St (i + 1) h₇ := W.frame _ _ _ hst₂ fun b hb o e => by
      have hbC : b ≠ cenv.locals := fun q => hCf (q ▸ hb)
      exact hs₇.extBut b o hbC (hs₆.extBut b o hbC (he' _ _ e))
    refine wpAny_dictSet_pairs (hsz := Nat.le_trans (hlen _ _ hI) (Nat.le_trans hi hsz)) (intKind_is prog w c tc) hacc₇ fun h₈ hl₈ hs₈ => ?_
    refine ⟨n + 1 - (i + 1), by omega, h₈, _, _, _, i + 1, rfl, hlt, rfl, ?_, hl₈, hn₇.sameBut hs₈ (Ne.symm hDC), hI', fun b o hbC hbw hbD e => hs₈.extBut b o hbD (up b o hbC hbw (hkp b o hbC hbw hbD e))⟩
    exact W.frame _ _ _ hst₇ fun b hb o e => hs₈.extBut b o (fun q => hDf (q ▸ hb)) e
  · obtain rfl : i = n := Nat.le_antisymm hi (Nat.not_lt.mp hlt)
    refine W.done _ _ _ hst' fun h₁ tk₁ hk₁ => ?_
    exact hR h₁ tk₁ m' kvs (hn'.at' fun o e => hk₁ _ o hCw e) (hacc'.at fun o e => hk₁ _ o hDw e) hI fun b o hbC hbf hbD e => hk₁ b o hbf (hkp b o hbC hbf hbD e)
end
/-- the table that stands at D: one sign at nought, or none -/
def DictIs (prog : Program) (w : World) (D : Addr) (o : Obj) (ks : List Int) : Prop :=
  (D == sysModules) = false ∧ ∃ kvs, o.IsDictOf (intKind prog w) kvs ∧ ((ks = [] ∧ kvs = []) ∨ ∃ c t, ks = [c] ∧ kvs = [(c, .int 0 t)])
/-- the ledger's head: an enumerate over these bytes, at its start -/
def EnumAt (prog : Program) (w : World) (h₀ : Heap) (L : Addr) (m : Str → Option Value) (news : List (Addr × Obj)) (Q : Value → Shared → Prop) (xv : Value) (s₁ : Shared) : Prop :=
  ∃ it t ks, xv = .ref (it + 1) ∧ Fr h₀ L s₁.heap m ∧ News h₀ L s₁.heap ((it + 1, enumObj it) :: (it, bytesIt (byteArr ks) t) :: news) ∧ (∀ p ∈ news, p.1 < it) ∧ (ks = [] ∨ ∃ c, ks = [c] ∧ 0 ≤ c ∧ c < 256) ∧
    ∀ D o h' tk, Fr h₀ L h' m → News h₀ L h' ((D, o) :: news) → (∀ p ∈ news, p.1 < D) → DictIs prog w D o ks → Q (.ref D) { heap := h', gens := s₁.gens, drawn := s₁.drawn, toks := tk, os := s₁.os }
theorem stored_nil (c : Int) (v : Value) : stored [] c v = [(c, v)] := rfl
section
variable {prog : Program} {w : World} {A : Around} {E : Value → Shared → Prop} {s : Shared} {h₀ : Heap} {L : Addr} {m : Str → Option Value} {news : List (Addr × Obj)} {env : Env}
theorem block {xi xc : Str} {pi pc p1 p2 tp : Pos} {x1} {iter : Expr} {scope : Scope} {cl : List (Str × Addr)} {pos : Pos} {s₂ : Shared} {e : Addr} {fp wr : List Addr} {n : Nat} {Pt : Nat → Array Value → Prop} {St : Nat → Heap → Prop} {Mid : Nat → Addr → Heap → Prop}
    {RR : Value → Addr → Result → Shared → Prop}
    (hh : A.handled = none) (W : WalksT prog w A e fp wr n Pt St Mid) (hcell : ∀ y ∈ scope.names, y.2 ≠ .cell) (hkind : scope.kind = .function) (hxi : scope.names.lookup xi = some .local) (hxc : scope.names.lookup xc = some .local) (hic : xi ≠ xc)
    (hdi : (xi == ("__debug__" : Str)) = false) (hdc : (xc == ("__debug__" : Str)) = false) (hst : St 0 s₂.heap) (hfp : ∀ b ∈ fp, b < s₂.heap.objs.size)
    (Inv : Nat → List (Int × Value) → Prop) (h0 : Inv 0 [])
    (hstep : ∀ i vals kvs, i < n → Pt i vals → Inv i kvs → ∃ a ta c tc, vals = #[.int a ta, .int c tc] ∧ Inv (i + 1) (stored kvs c (.int a ta)))
    (hlen : ∀ i kvs, Inv i kvs → kvs.length ≤ i) (hsz : n ≤ sizeLine)
    (hRR : ∀ D C h' tk m' kvs, D = s₂.heap.objs.size → s₂.heap.get? C = none → D ≠ C → h'.Ns C m' → h'.DictOf (intKind prog w) D kvs → Inv n kvs →
      (∀ b o, b ∉ wr → s₂.heap.get? b = some o → h'.get? b = some o) → RR (.ref D) C (.ok .next) { s₂ with heap := h', toks := tk }) :
    wpAny (model prog w) A newDict (fun acc s₃ => wpAny (model prog w) A (newFunctionEnv scope env.globals cl [] env.qual none .none (some env)) (fun cenv s₄ =>
      codeAny (model prog w) A (.compStart (.DictComp (.Name xc p1) (.Name xi p2) [⟨.Tuple [.Name xi pi, .Name xc pc] x1 tp, iter, [], 0⟩] scope pos) 0 (.ref e) acc { cenv with scope := relabel scope env }) (RR acc cenv.locals) s₄) E s₃) E s₂ := by
  refine wpAny_newObj_type (wpAny_newFunctionEnv hcell (by intro y hy; simp at hy) (fun h₁ hns₁ hsb₁ => ?_) hkind)
  dsimp only at hns₁ hsb₁ ⊢
  have hnew : (s₂.heap.push { cls := .type "dict", dict := none, data := .dict #[] }).DictOf (intKind prog w) s₂.heap.objs.size [] := Heap.DictOf.new s₂.heap
  generalize hH2 : s₂.heap.push { cls := .type "dict", dict := none, data := .dict #[] } = H2 at hns₁ hsb₁ hnew ⊢
  have hC : H2.objs.size = s₂.heap.objs.size + 1 := by rw [← hH2, Heap.size_push]
  have hDC : s₂.heap.objs.size ≠ H2.objs.size := by rw [hC]; exact Nat.ne_of_lt (Nat.lt_succ_self _)
  have below : ∀ b, b < s₂.heap.objs.size → b ≠ H2.objs.size ∧ b ≠ s₂.heap.objs.size := fun b hb => ⟨by rw [hC]; exact Nat.ne_of_lt (Nat.lt_succ_of_lt hb), Nat.ne_of_lt hb⟩
  have hDf : s₂.heap.objs.size ∉ fp := fun hm => Nat.lt_irrefl _ (hfp _ hm)
  have hCf : H2.objs.size ∉ fp := fun hm => by have := hfp _ hm; rw [hC] at this; exact Nat.lt_irrefl _ (Nat.lt_of_succ_lt this)
  have old : ∀ b o, s₂.heap.get? b = some o → h₁.get? b = some o := fun b o e => hsb₁.extBut b o (below b (Heap.lt_size e)).1 (Heap.get?_push_of_some _ (hH2 ▸ Heap.get?_push_of_some _ e))
  have hacc : h₁.DictOf (intKind prog w) s₂.heap.objs.size [] := hnew.at fun o e => hsb₁.extBut _ _ hDC (Heap.get?_push_of_some _ e)
  have hst₁ : St 0 h₁ := W.frame _ _ _ hst fun b _ o e => old b o e
  have fresh : ∀ a, s₂.heap.objs.size ≤ a → s₂.heap.get? a = none := fun a ha => by
    cases e : s₂.heap.get? a with
    | none => rfl
    | some o' => exact absurd (Heap.lt_size e) (Nat.not_lt.mpr ha)
  have loop : ∀ s₃ : Shared, s₃ = { s₂ with heap := h₁, toks := s₂.toks + ([] : List (Str × Value)).length } →
      codeAny (model prog w) A (.compLoop (.DictComp (.Name xc p1) (.Name xi p2) [⟨.Tuple [.Name xi pi, .Name xc pc] x1 tp, iter, [], 0⟩] scope pos) 0 (.ref e) (.ref s₂.heap.objs.size) (compEnvC scope cl H2.objs.size env))
        (RR (.ref s₂.heap.objs.size) H2.objs.size) s₃ := by
    rintro s₃ rfl
    refine loopWalk (cenv := compEnvC scope cl H2.objs.size env) hh W (lookup_relabel_local hxi) (lookup_relabel_local hxc) hic (by simp [compEnvC, relabel, hkind]) hdi hdc (by simp [compEnvC, relabel, hkind]) hDC hDf hCf hst₁ hacc hns₁ Inv h0 hstep hlen hsz fun h' tk m' kvs hn ha hI hk => ?_
    exact hRR _ _ h' tk m' kvs rfl (fresh _ (by rw [hC]; exact Nat.le_succ _)) hDC hn ha hI fun b o hbf e =>
      hk b o (below b (Heap.lt_size e)).1 hbf (below b (Heap.lt_size e)).2 (old b o e)
  exact codeAny_compStart_dict (loop _ rfl) (W.self 0 _ _ _ hst₁ (loop _ rfl))
theorem dictComp {xi xc : Str} {pi pc p1 p2 tp : Pos} {x1} {iter : Expr} {scope : Scope} {cl : List (Str × Addr)} {pos : Pos} {Q : Value → Shared → Prop}
    (hh : A.handled = none) (_F : Fr h₀ L s.heap m) (_N : News h₀ L s.heap news) (hbig : h₀.NoLimit) (hclos : closureFor scope env = pure cl) (hcell : ∀ y ∈ scope.names, y.2 ≠ .cell) (hkind : scope.kind = .function)
    (hnames : ∀ y ∈ scope.names, y.2 = .local → scope.names.lookup y.1 = some .local) (hxi : scope.names.lookup xi = some .local) (hxc : scope.names.lookup xc = some .local) (hic : xi ≠ xc)
    (hdi : (xi == ("__debug__" : Str)) = false) (hdc : (xc == ("__debug__" : Str)) = false)
    (h : wpAny (model prog w) A (eval iter env) (EnumAt prog w h₀ L m news Q) E s)
    (hs : ∀ x, foldedSetIterable iter env x = pure x) :
    wpAny (model prog w) A (eval (.DictComp (.Name xc p1) (.Name xi p2) [⟨.Tuple [.Name xi pi, .Name xc pc] x1 tp, iter, [], 0⟩] scope pos) env) Q E s := by
  rw [arm_eval_DictComp]
  refine wpAny_comprehension_free (use := none) rfl hs hclos hkind hnames (wpAny_mono h (fun xv s₁ h₁ => ?_) fun _ _ e => e)
  obtain ⟨it, t, ks, rfl, Fm, N, hlow, hks, hQ⟩ := h₁
  have hE : IsEnum s₁.heap (it + 1) it 0 .none := (N _ (.head _)).1
  have hB : KBw.IsBytesIter s₁.heap it (byteArr ks) t 0 := ⟨_, (N _ (.tail _ (.head _))).1, rfl, rfl⟩
  have hlt : it + 1 < s₁.heap.objs.size := Heap.lt_size hE
  have W := WalksT.enumerateD (prog := prog) (w := w) (A := A) (drawsBytes (A := A.in1) hh it (byteArr ks) t) (it + 1) (Nat.ne_of_gt (Nat.lt_succ_self it)) (by simp) (by simp)
  refine wpAny_pyIter_enum hE ?_
  have hn1 : ks.length ≤ 1 := by rcases hks with rfl | ⟨c, rfl, _⟩ <;> simp
  refine block (RR := fun acc C => compPost (model prog w) A E none Q acc C) hh W hcell hkind hxi hxc hic hdi hdc ⟨⟨_, hE⟩, hB⟩ ?_
    (fun i kvs => (i = 0 ∧ kvs = []) ∨ (i = 1 ∧ ∃ c t', ks = [c] ∧ kvs = [(c, .int 0 t')])) (.inl ⟨rfl, rfl⟩) ?_ ?_ ?_ ?_
  · intro b hb
    rcases List.mem_cons.mp hb with rfl | hb
    · exact hlt
    · rw [List.mem_singleton.mp hb]; exact Nat.lt_of_succ_lt hlt
  · rintro i vals kvs hi ⟨ta, x, ⟨c, u, hc, rfl⟩, rfl⟩ hI
    rw [byteArr_size] at hi
    have hi0 : i = 0 := by omega
    subst hi0
    rcases hks with rfl | ⟨c', rfl, hc0, hc1⟩
    · simp at hi
    · have hcc : c.toNat = c'.toNat := by
        have e : c = c'.toNat.toUInt8 := by
          have : (byteArr [c'])[0]? = some c'.toNat.toUInt8 := rfl
          rw [this] at hc
          exact (Option.some.inj hc).symm
        rw [e, byte_toNat hc0 hc1]
      have hcI : (c.toNat : Int) = c' := by omega
      refine ⟨_, ta, _, u, rfl, .inr ⟨rfl, c', ta, rfl, ?_⟩⟩
      rcases hI with ⟨_, rfl⟩ | ⟨h1, _⟩
      · rw [hcI, stored_nil]; rfl
      · exact absurd h1 (by decide)
  · rintro i kvs (⟨rfl, rfl⟩ | ⟨rfl, c, t', _, rfl⟩) <;> simp
  · rw [byteArr_size, sizeLine_eq]; omega
  · intro D C h' tk m' kvs hD hC hDC hn hl hI hk
    refine ⟨m', hn, fun h'' hs'' => ?_⟩
    have keep : ∀ b o, b ≠ it + 1 → b ≠ it → s₁.heap.get? b = some o → h''.get? b = some o := fun b o h1 h2 e =>
      hs''.extBut b o (by rintro rfl; rw [hC] at e; cases e) (hk b o (by simp [h1, h2]) e)
    have hl' := hl.extBut hs''.extBut hDC
    obtain ⟨o, ho, hdo⟩ := Heap.dictOf_iff.mp hl'
    have hLs : L ≠ it + 1 ∧ L ≠ it := ⟨Ne.symm (N _ (.head _)).2.1, Ne.symm (N _ (.tail _ (.head _))).2.1⟩
    have hnone : h₀.get? (it + 1) = none ∧ h₀.get? it = none := ⟨(N _ (.head _)).2.2, (N _ (.tail _ (.head _))).2.2⟩
    have hLlt : L < s₁.heap.objs.size := Fm.ns.lt
    have F' : Fr h₀ L h'' m := ⟨Fm.ns.at' fun o e => keep L o hLs.1 hLs.2 e, fun b o e => keep b o (fun q => by rw [q, hnone.1] at e; cases e) (fun q => by rw [q, hnone.2] at e; cases e) (Fm.keep b o e), Fm.above⟩
    refine hQ D o h'' tk F' (fun p hp => ?_) (fun p hp => by rw [hD]; exact Heap.lt_size (N p (.tail _ (.tail _ hp))).1) ⟨?_, kvs, hdo, ?_⟩
    · rcases List.mem_cons.mp hp with rfl | hp
      · refine ⟨ho, by rw [hD]; exact Nat.ne_of_gt hLlt, ?_⟩
        cases q : h₀.get? D with
        | none => rfl
        | some o' => have := Heap.lt_size (Fm.keep _ _ q); rw [hD] at this; exact absurd this (Nat.lt_irrefl _)
      · have hp' : p ∈ (it + 1, enumObj it) :: (it, bytesIt (byteArr ks) t) :: news := .tail _ (.tail _ hp)
        have hl := hlow p hp
        exact ⟨keep _ _ (Nat.ne_of_lt (Nat.lt_succ_of_lt hl)) (Nat.ne_of_lt hl) (N p hp').1, (N p hp').2⟩
    · have hm := modules_low hbig
      refine beq_eq_false_iff_ne.mpr (Nat.ne_of_gt ?_)
      rw [hD]
      exact Nat.lt_of_lt_of_le hm (Nat.le_trans Fm.above (Nat.le_of_lt hLlt))
    · rcases hI with ⟨hn0, rfl⟩ | ⟨_, c, t', hc, rfl⟩
      · rw [byteArr_size] at hn0
        exact .inl ⟨List.eq_nil_of_length_eq_zero hn0, rfl⟩
      · exact .inr ⟨c, t', hc, rfl⟩
theorem enumAt_end {Q : Value → Shared → Prop} {it : Addr} {t : Tok} {ks : List Int} (F : Fr h₀ L s.heap m) (N : News h₀ L s.heap ((it + 1, enumObj it) :: (it, bytesIt (byteArr ks) t) :: news)) (hl : ∀ p ∈ news, p.1 < it) (hk : ks = [] ∨ ∃ c, ks = [c] ∧ 0 ≤ c ∧ c < 256)
    (h : ∀ D o h' tk, Fr h₀ L h' m → News h₀ L h' ((D, o) :: news) → (∀ p ∈ news, p.1 < D) → DictIs prog w D o ks → Q (.ref D) { heap := h', gens := s.gens, drawn := s.drawn, toks := tk, os := s.os }) : EnumAt prog w h₀ L m news Q (.ref (it + 1)) s :=
  ⟨it, t, ks, rfl, F, N, hl, hk, h⟩
theorem one_sign {c : Int} (h : 0 ≤ c) (h' : c < 256) : ([c] : List Int) = [] ∨ ∃ d, ([c] : List Int) = [d] ∧ 0 ≤ d ∧ d < 256 := .inr ⟨c, rfl, h, h'⟩
theorem no_sign : ([] : List Int) = [] ∨ ∃ d, ([] : List Int) = [d] ∧ 0 ≤ d ∧ d < 256 := .inl rfl
/-- a look-up in the table: the one sign, and any other -/
theorem mapHit {D : Addr} {o : Obj} {c : Int} {t : Tok} {value slice : Expr} {Q : Value → Shared → Prop} (N : News h₀ L s.heap news) (hm : (D, o) ∈ news) (hD : DictIs prog w D o [c])
    (h : ∀ t' k, Q (.int 0 t') { heap := s.heap, gens := s.gens, drawn := s.drawn, toks := k, os := s.os })
    (hs : subscripted slice false (.ref D) (.int c t) = operate [.ref D, .int c t] (getItem (.ref D) (.int c t)) := by with_unfolding_all rfl) (hg : ∀ r, letTemporaryGo value (.ref D) r = pure () := by intro _; with_unfolding_all rfl) :
    wpAny (model prog w) A (subscriptTail value slice (.ref D) (.int c t)) Q E s := by
  obtain ⟨hlo, kvs, hd, hc⟩ := hD
  rcases hc with ⟨h0, _⟩ | ⟨c', t', h1, rfl⟩
  · cases h0
  · cases h1
    have T : IntTab prog w s.heap D [(.int c, .int 0)] := TabAt.ofObj hlo (N.get hm) hd (.cons (PyProof.V.Flat.int _ _) .nil)
    refine item_intTab (dv := .int 0) T (by simp [PySem.Spec.lookup, PySem.Spec.same]) (fun v hv => ?_) hs hg
    obtain ⟨t'', rfl⟩ := hv.int_inv
    exact h _ _
theorem mapMiss {D : Addr} {o : Obj} {c : Int} {ks : List Int} {t : Tok} {value slice : Expr} {Q : Value → Shared → Prop} (F : Fr h₀ L s.heap m) (N : News h₀ L s.heap news) (hm : (D, o) ∈ news) (hD : DictIs prog w D o ks) (hh : A.handled = none) (hc : c ∉ ks)
    (h : ∀ h' e k, Heap.NewExc s.heap h' e "KeyError" → Fr h₀ L h' m → News h₀ L h' news → E (.ref e) { heap := h', gens := s.gens, drawn := s.drawn, toks := k, os := s.os })
    (hs : subscripted slice false (.ref D) (.int c t) = operate [.ref D, .int c t] (getItem (.ref D) (.int c t)) := by with_unfolding_all rfl) (hg : ∀ r, letTemporaryGo value (.ref D) r = pure () := by intro _; with_unfolding_all rfl) :
    wpAny (model prog w) A (subscriptTail value slice (.ref D) (.int c t)) Q E s := by
  obtain ⟨hlo, kvs, hd, hk⟩ := hD
  have fin : ∀ h' e, Heap.NewExc s.heap h' e "KeyError" → E (.ref e) { s with heap := h', toks := s.toks + 1 } := fun h' e hx => h h' e _ hx (F.keptAll hx.1) (N.grown hx.1)
  rcases hk with ⟨_, rfl⟩ | ⟨c', t', rfl, rfl⟩
  · have T : IntTab prog w s.heap D [] := TabAt.ofObj hlo (N.get hm) hd .nil
    exact item_intTab_missing T hh rfl fin hs hg
  · have T : IntTab prog w s.heap D [(.int c', .int 0)] := TabAt.ofObj hlo (N.get hm) hd (.cons (PyProof.V.Flat.int _ _) .nil)
    have hne : ¬ c = c' := fun q => hc (by rw [q]; exact .head _)
    refine item_intTab_missing T hh ?_ fin hs hg
    have hne' : ¬ c' = c := fun q => hne q.symm
    simp [PySem.Spec.lookup, PySem.Spec.same, hne']
end
end Mine
end
section
open PySem PySem.W PyProof.Rows
namespace Mine
theorem rev_no_bytes : typeLookup (.type "list_reverseiterator") "__bytes__" = pure none := by rw [typeLookup_type, builtinLookup_eq_fast]; kernel_rfl
theorem rev_no_index : typeLookup (.type "list_reverseiterator") "__index__" = pure none := by rw [typeLookup_type, builtinLookup_eq_fast]; kernel_rfl
theorem rev_no_buffer : typeLookup (.type "list_reverseiterator") "__buffer__" = pure none := by rw [typeLookup_type, builtinLookup_eq_fast]; kernel_rfl
theorem rev_no_len : typeLookup (.type "list_reverseiterator") "__len__" = pure none := by rw [typeLookup_type, builtinLookup_eq_fast]; kernel_rfl
theorem rev_hint : typeLookup (.type "list_reverseiterator") "__length_hint__" = pure (some (.builtin "list_reverseiterator.__length_hint__")) := by rw [typeLookup_type, builtinLookup_eq_fast]; kernel_rfl
theorem rev_split : splitId "list_reverseiterator.__length_hint__" = some ("list_reverseiterator", "__length_hint__") := by decide +kernel
theorem rev_sub : isSubtype (.type "list_reverseiterator") (.type "list_reverseiterator") = pure true := by rw [isSubtype_type]; kernel_rfl
section
variable {prog : Program} {w : World} {A : Around} {E : Value → Shared → Prop} {s : Shared} {h₀ : Heap} {L : Addr} {m : Str → Option Value} {news : List (Addr × Obj)}
theorem rev_loop {R : Result → Shared → Prop} {l I S : Addr} (hh : A.handled = none) (hIS : I ≠ S) (hit : s.heap.IsRevIter I l (-1)) (hS : s.heap.get? S = some { cls := .type "bytearray", data := .bytearray #[] })
    (hR : ∀ h' t k', (∀ b o, b ≠ I → b ≠ S → s.heap.get? b = some o → h'.get? b = some o) → R (.ok (.ret (.bytes (byteArr []) t))) { s with heap := h', toks := k' }) :
    codeAny (model prog w) A (.builtin "bytes.__new__.loop" ⟨[.type "bytes", .ref I, .ref S], []⟩) R s := by
  refine codeAny_builtin F.bm_entry_loop ?_
  rw [Around.under_plainId F.bm_plain_loop _]
  show wpAny _ A.in1 (pyNext (.ref I) >>= _) _ _ s
  refine wpAny_bind (wpAny_pyNext_rev_end hh hit fun h' he => ?_)
  have hS' : h'.get? S = some { cls := .type "bytearray", data := .bytearray #[] } := he S _ (Ne.symm hIS) hS
  refine wpAny_bind ?_
  unfold Builtin.Bytes.payload Builtin.Bytes.payload?
  refine wpAny_bind (wpAny_bind (wpAny_load hS' ?_))
  refine wpAny_pure (wpAny_pure ?_)
  refine wpAny_bind (wpAny_mkBytes ?_ (Nat.zero_le _))
  show wpAny _ _ (if (Value.type "bytes" == Value.type "bytes") = true then _ else _) _ _ _
  refine bm_if_true (by decide) ?_
  first
    | exact wpAny_pure (hR h' _ _ fun b o hb _ e => he b o hb e)
    | exact wpAny_bind (wpAny_pure (wpAny_pure (hR h' _ _ fun b o hb _ e => he b o hb e)))
theorem rev_new {l I : Addr} {Q : Value → Shared → Prop} (hh : A.handled = none) (hit : s.heap.IsRevIter I l (-1))
    (hQ : ∀ h' t k, (∀ b o, b ≠ I → s.heap.get? b = some o → h'.get? b = some o) → Q (.bytes (byteArr []) t) { s with heap := h', toks := k }) :
    codeAny (model prog w) A (.call (.builtin "bytes.__new__") ⟨[.type "bytes", .ref I], []⟩) (wants Q E) s := by
  refine codeAny_of_tree ?_
  show wpAny _ A.in1 (do checkBuiltinCall "bytes.__new__" ⟨[.type "bytes", .ref I], []⟩; again (.builtin "bytes.__new__" ⟨[.type "bytes", .ref I], []⟩)) _ _ s
  refine wpAny_bind (wpAny_of_eq (F.bm_newCall _) (wpAny_pure ⟨plainId_quiet F.bm_plain _, codeAny_builtin F.bm_entry ?_⟩))
  rw [Around.under_plainId F.bm_plain _]
  have hT : s.TypeIs (.ref I) "list_reverseiterator" := hit.typeIs
  obtain ⟨ol, hol, hoc, hod⟩ := id hit
  unfold Builtin.«bytes.__new__»
  refine wpAny_bind (wpAny_of_eq (a := true) rfl ?_)
  refine bm_if_false rfl ?_
  refine wpAny_bind (wpAny_of_eq F.bm_sub ?_)
  refine bm_if_false rfl ?_
  refine wpAny_bind (wpAny_of_eq (F.bm_bind _) ?_)
  refine wpAny_bind (wpAny_of_eq (a := ()) rfl ?_)
  refine wpAny_bind (wpAny_of_eq (a := ()) rfl ?_)
  refine bm_if_false rfl ?_
  refine wpAny_bind (wpAny_specialOf hT rev_no_bytes ?_)
  refine wpAny_bind (wpAny_bind ?_)
  show wpAny _ _ (load I >>= _) _ _ _
  refine wpAny_bind (wpAny_load hol ?_)
  rw [hod]
  refine wpAny_pure (wpAny_pure ?_)
  refine bm_if_false rfl ?_
  refine wpAny_bind (wpAny_specialOf hT rev_no_index ?_)
  refine bm_if_true rfl ?_
  first
    | show wpAny _ _ (Builtin.Bytes.buffer? "bytes.__new__" (.ref I) true >>= _) _ _ _
    | (refine wpAny_bind ?_; show wpAny _ _ (Builtin.Bytes.buffer? "bytes.__new__" (.ref I) true >>= _) _ _ _)
  refine wpAny_bind ?_
  unfold Builtin.Bytes.buffer?
  refine wpAny_bind (wpAny_specialOf hT rev_no_buffer ?_)
  refine wpAny_bind (wpAny_specialOf hT rev_no_buffer ?_)
  refine wpAny_pure ?_
  refine wpAny_bind (wpAny_tryCatch (wpAny_pyIter_revIter hit ?_))
  refine wpAny_bind (wpAny_holding ?_)
  unfold Builtin.Bytes.lengthHint
  refine wpAny_bind (wpAny_specialOf hT rev_no_len ?_)
  dsimp only
  refine bm_if_false (by decide +kernel) ?_
  refine bm_if_false rfl ?_
  refine wpAny_bind (wpAny_specialOf hT rev_hint ?_)
  dsimp only
  rw [rev_split]
  dsimp only
  refine wpAny_bind (wpAny_isInstance hT rev_sub ?_)
  refine bm_if_false rfl ?_
  refine bm_if_true (by decide +kernel) ?_
  refine bm_if_false (by decide +kernel) ?_
  refine wpAny_pure ?_
  refine wpAny_bind ?_
  unfold Builtin.Bytes.newBytearray
  refine wpAny_newObj_type ?_ (Nat.zero_le _)
  have hlt : I < s.heap.objs.size := Heap.lt_size hol
  have main := rev_loop (prog := prog) (w := w) (A := A) (R := wants Q E) (l := l) (I := I) (S := s.heap.objs.size) (s := { s with heap := s.heap.push { cls := .type "bytearray", data := .bytearray #[] } }) hh (Nat.ne_of_lt hlt)
    (hit.at fun o e => Heap.get?_push_of_some _ e) (Heap.get?_push_size _ rfl)
    fun h' t k hk => hQ h' t k fun b o hb e => hk b o hb (Nat.ne_of_lt (Heap.lt_size e)) (Heap.get?_push_of_some _ e)
  first
    | exact wpAny_pure ⟨plainId_quiet F.bm_plain_loop _, main⟩
    | exact wpAny_pure (wpAny_pure ⟨plainId_quiet F.bm_plain_loop _, main⟩)
theorem call_bytes_rev {l I : Addr} {Q : Value → Shared → Prop} (hh : A.handled = none) (hit : s.heap.IsRevIter I l (-1))
    (hQ : ∀ h' t k, (∀ b o, b ≠ I → s.heap.get? b = some o → h'.get? b = some o) → Q (.bytes (byteArr []) t) { s with heap := h', toks := k }) : wpAny (model prog w) A (call (.type "bytes") [.ref I]) Q E s := by
  refine callType_codes (Q₁ := fun obj s₁ => s₁.TypeIs obj "bytes" ∧ Q obj s₁) F.bm_called (F.bm_typeCall _) F.entry_object_init
    (rev_new hh hit fun h' t k hk => ⟨PySem.W.typeIs_bytes _ _ _, hQ h' t k hk⟩) fun obj s₁ h₁ => ?_
  exact ⟨h₁.1, F.args_object_init_2 obj _, object_init_meets F.bm_called.init.lookup F.bm_called.made (by decide) prog w A.in1 _ s₁ ⟨h₁.1, rfl, h₁.2⟩⟩
theorem bytesRev {l D : Addr} {i : Int} {n : Nat} {Q : Value → Shared → Prop} (Fm : Fr h₀ L s.heap m) (N : News h₀ L s.heap ((D, revObj l i) :: (l, listOf #[] n) :: news)) (hh : A.handled = none) (hi : i = -1) (hlow : ∀ p ∈ news, p.1 ≠ D)
    (h : ∀ h' t' k, Fr h₀ L h' m → News h₀ L h' news → Q (.bytes (byteArr []) t') { heap := h', gens := s.gens, drawn := s.drawn, toks := k, os := s.os }) : wpAny (model prog w) A (call (.type "bytes") [.ref D]) Q E s := by
  subst hi
  refine call_bytes_rev (l := l) hh ⟨_, (N _ (.head _)).1, rfl, rfl⟩ fun h' t k hk => ?_
  have hD := N (D, revObj l (-1)) (.head _)
  refine h h' t k ⟨Fm.ns.at' fun o e => hk L o (Ne.symm hD.2.1) e, fun b o e => hk b o (fun q => ?_) (Fm.keep b o e), Fm.above⟩ fun p hp => ⟨hk _ _ (hlow p hp) (N p (.tail _ (.tail _ hp))).1, (N p (.tail _ (.tail _ hp))).2⟩
  have h2 : h₀.get? D = none := hD.2.2
  rw [q, h2] at e
  cases e
end
end Mine
end
section
open PySem PySem.W PyProof.Rows
namespace Mine
section
variable {prog : Program} {w : World} {A : Around} {E : Value → Shared → Prop} {s : Shared} {env : Env} {h₀ : Heap} {x y : PySem.Str} {body : List Stmt} {Q : Flow → Shared → Prop} {m₀ : PySem.Str → Option Value} {news : List (Addr × Obj)}
abbrev Turned (x y : Str) (m₀ : Str → Option Value) (news : List (Addr × Obj)) : (Str → Option Value) → List (Addr × Obj) → Prop :=
  fun m' nx => nx = news ∧ (∃ t, m' y = some (.int 0 t)) ∧ ∀ z, z ≠ x → z ≠ y → m' z = m₀ z
theorem bInts_byteArr {ks : List Int} (hr : ∀ k ∈ ks, 0 ≤ k ∧ k < 256) : KBw.bInts (byteArr ks) = ks := KBa.ints_make hr
theorem loop_any {ks : List Int} {c : Int} {p : Nat} {tb t0 : Tok} (hr : ∀ k ∈ ks, 0 ≤ k ∧ k < 256) (hp : ∀ i k, i < p → ks[i]? = some k → k = c)
    (hh : A.handled = none) (F : Fr h₀ env.locals s.heap m₀) (N : News h₀ env.locals s.heap news) (hy : m₀ y = some (.int 0 t0)) 
    (turn : ∀ t t0' h tk own, OwnOff own (news.map (·.1)) → Fr h₀ env.locals h (fun z => if z = x then some (.int c t) else if z = y then some (.int 0 t0') else m₀ z) → News h₀ env.locals h (news ++ own) →
      wpAny (model prog w) A (execs body env) (InvPostN h₀ env.locals (Turned x y m₀ news) own (news.map (·.1)) { s with heap := h, toks := tk } Q) E { s with heap := h, toks := tk })
    (miss : ∀ k, ks[p]? = some k → ∀ t t0' h tk own, OwnOff own (news.map (·.1)) → Fr h₀ env.locals h (fun z => if z = x then some (.int k t) else if z = y then some (.int 0 t0') else m₀ z) → News h₀ env.locals h (news ++ own) →
      wpAny (model prog w) A (execs body env) (fun _ _ => False) E { s with heap := h, toks := tk })
    (done : ks.length ≤ p → ∀ (u : PySem.Str → Option Value) t h tk, Fr h₀ env.locals h (fun z => if z = x then u z else if z = y then some (.int 0 t) else m₀ z) → News h₀ env.locals h news → Q .next { s with heap := h, toks := tk }) :
    wpAny (model prog w) A (pyIter (.bytes (byteArr ks) tb)) (fun it s₂ => LoopAtV prog w A h₀ env x body Q E it s₂) E s := by
  refine KBmo.iter_bytesN (fun i m nx => i ≤ p ∧ Turned x y m₀ news m nx) (bInts_byteArr hr) hh F N ⟨Nat.zero_le _, rfl, ⟨t0, hy⟩, fun _ _ _ => rfl⟩ ?_ ?_
  · rintro i k t m₁ news₁ h tk own hk - - hoff ⟨hip, rfl, ⟨t1, hy1⟩, hm1⟩ F₁ N₁
    have em : (fun z => if z = x then some (Value.int k t) else m₁ z) = fun z => if z = x then some (.int k t) else if z = y then some (.int 0 t1) else m₀ z := by
      funext z
      by_cases h1 : z = x
      · simp [h1]
      · by_cases h2 : z = y
        · simp [h1, h2, hy1]
        · simp [h1, h2, hm1 z h1 h2]
    rw [em] at F₁
    by_cases hlt : i < p
    · have hkc := hp i k hlt hk
      subst hkc
      refine wpAny_mono (turn t t1 h tk own hoff F₁ N₁) (fun f s₂ hf => ?_) fun _ _ e => e
      have up : InvEndN h₀ env.locals (Turned x y m₀ news₁) own (news₁.map (·.1)) { s with heap := h, toks := tk } s₂ → InvEndN h₀ env.locals (fun m nx => i + 1 ≤ p ∧ Turned x y m₀ news₁ m nx) own (news₁.map (·.1)) { s with heap := h, toks := tk } s₂ := by
        rintro ⟨h', tk', m', news', nx, e, F', N', a, b, c, d⟩
        exact ⟨h', tk', m', news', nx, e, F', N', a, b, c, hlt, d⟩
      cases f with
      | ret v => exact hf
      | brk => exact hf
      | next => exact up hf
      | cont => exact up hf
    · have hip' : i = p := Nat.le_antisymm hip (Nat.not_lt.mp hlt)
      subst hip'
      exact wpAny_mono (miss k hk t t1 h tk own hoff F₁ N₁) (fun _ _ e => e.elim) fun _ _ e => e
  · rintro m₁ news₁ h tk ⟨hle, rfl, ⟨t1, hy1⟩, hm1⟩ F₁ N₁
    refine done hle m₁ t1 h tk ?_ N₁
    have em : m₁ = fun z => if z = x then m₁ z else if z = y then some (.int 0 t1) else m₀ z := by
      funext z
      by_cases h1 : z = x
      · simp [h1]
      · by_cases h2 : z = y
        · subst h2; simp [h1, hy1]
        · simp [h1, h2, hm1 z h1 h2]
    rw [em] at F₁
    simpa using F₁
theorem rep_in {n : Nat} {c : Int} (hc : 0 ≤ c ∧ c < 256) : ∀ k ∈ List.replicate n c, 0 ≤ k ∧ k < 256 := fun k hk => by rw [List.eq_of_mem_replicate hk]; exact hc
/-- every turn takes the one sign -/
theorem loopSame {n : Nat} {c : Int} {tb t0 : Tok} (hc : 0 ≤ c ∧ c < 256) (hh : A.handled = none) (F : Fr h₀ env.locals s.heap m₀) (N : News h₀ env.locals s.heap news) (hy : m₀ y = some (.int 0 t0))
    (turn : ∀ t t0' h tk own, OwnOff own (news.map (·.1)) → Fr h₀ env.locals h (fun z => if z = x then some (.int c t) else if z = y then some (.int 0 t0') else m₀ z) → News h₀ env.locals h (news ++ own) →
      wpAny (model prog w) A (execs body env) (InvPostN h₀ env.locals (Turned x y m₀ news) own (news.map (·.1)) { s with heap := h, toks := tk } Q) E { s with heap := h, toks := tk })
    (done : ∀ (u : PySem.Str → Option Value) t h tk, Fr h₀ env.locals h (fun z => if z = x then u z else if z = y then some (.int 0 t) else m₀ z) → News h₀ env.locals h news → Q .next { s with heap := h, toks := tk }) :
    wpAny (model prog w) A (pyIter (.bytes (byteArr (List.replicate n c)) tb)) (fun it s₂ => LoopAtV prog w A h₀ env x body Q E it s₂) E s :=
  loop_any (p := n) (rep_in hc) (fun i k _ hk => List.eq_of_mem_replicate (List.mem_of_getElem? hk)) hh F N hy turn
    (fun k hk => by rw [List.getElem?_eq_none (by rw [List.length_replicate]; exact Nat.le_refl _)] at hk; cases hk) fun _ => done
/-- the one sign p times, then another: the turn upon it does not come to its end -/
theorem loopMiss {p : Nat} {c d : Int} {rest : List Int} {tb t0 : Tok} (hc : 0 ≤ c ∧ c < 256) (hd : 0 ≤ d ∧ d < 256) (hr : ∀ k ∈ rest, 0 ≤ k ∧ k < 256) (hh : A.handled = none) (F : Fr h₀ env.locals s.heap m₀) (N : News h₀ env.locals s.heap news) (hy : m₀ y = some (.int 0 t0))
    (turn : ∀ t t0' h tk own, OwnOff own (news.map (·.1)) → Fr h₀ env.locals h (fun z => if z = x then some (.int c t) else if z = y then some (.int 0 t0') else m₀ z) → News h₀ env.locals h (news ++ own) →
      wpAny (model prog w) A (execs body env) (InvPostN h₀ env.locals (Turned x y m₀ news) own (news.map (·.1)) { s with heap := h, toks := tk } Q) E { s with heap := h, toks := tk })
    (miss : ∀ t t0' h tk own, OwnOff own (news.map (·.1)) → Fr h₀ env.locals h (fun z => if z = x then some (.int d t) else if z = y then some (.int 0 t0') else m₀ z) → News h₀ env.locals h (news ++ own) →
      wpAny (model prog w) A (execs body env) (fun _ _ => False) E { s with heap := h, toks := tk }) :
    wpAny (model prog w) A (pyIter (.bytes (byteArr (List.replicate p c ++ d :: rest)) tb)) (fun it s₂ => LoopAtV prog w A h₀ env x body Q E it s₂) E s := by
  have hp : (List.replicate p c ++ d :: rest)[p]? = some d := by
    rw [List.getElem?_append_right (by rw [List.length_replicate]; exact Nat.le_refl _), List.length_replicate, Nat.sub_self]; rfl
  refine loop_any (p := p) (c := c) ?_ ?_ hh F N hy turn ?_ ?_
  · intro k hk
    rcases List.mem_append.mp hk with hk | hk
    · exact rep_in hc k hk
    · rcases List.mem_cons.mp hk with rfl | hk
      · exact hd
      · exact hr k hk
  · intro i k hi hk
    rw [List.getElem?_append_left (by rw [List.length_replicate]; exact hi)] at hk
    exact List.eq_of_mem_replicate (List.mem_of_getElem? hk)
  · intro k hk
    rw [hp] at hk
    cases hk
    exact miss
  · intro hle
    rw [List.length_append, List.length_replicate, List.length_cons] at hle
    omega
/-- the first sign is in no table -/
theorem loopFirst {d : Int} {rest : List Int} {tb t0 : Tok} (hd : 0 ≤ d ∧ d < 256) (hr : ∀ k ∈ rest, 0 ≤ k ∧ k < 256) (hh : A.handled = none) (F : Fr h₀ env.locals s.heap m₀) (N : News h₀ env.locals s.heap news) (hy : m₀ y = some (.int 0 t0))
    (miss : ∀ t t0' h tk own, OwnOff own (news.map (·.1)) → Fr h₀ env.locals h (fun z => if z = x then some (.int d t) else if z = y then some (.int 0 t0') else m₀ z) → News h₀ env.locals h (news ++ own) →
      wpAny (model prog w) A (execs body env) (fun _ _ => False) E { s with heap := h, toks := tk }) :
    wpAny (model prog w) A (pyIter (.bytes (byteArr (d :: rest)) tb)) (fun it s₂ => LoopAtV prog w A h₀ env x body Q E it s₂) E s := by
  refine loop_any (p := 0) (c := d) ?_ (fun i _ hi => absurd hi (Nat.not_lt_zero _)) hh F N hy ?_ ?_ ?_
  · intro k hk
    rcases List.mem_cons.mp hk with rfl | hk
    · exact hd
    · exact hr k hk
  · intro t t0' h tk own hoff F₁ N₁
    exact wpAny_mono (miss t t0' h tk own hoff F₁ N₁) (fun _ _ e => e.elim) fun _ _ e => e
  · intro k hk
    cases hk
    exact miss
  · intro hle
    exact absurd hle (Nat.not_succ_le_zero _)
/-- the table is empty: the first turn does not come to its end -/
theorem loopNone {ks : List Int} {D : Addr} {o : Obj} {tb t0 : Tok} (_hD : DictIs prog w D o []) (hne : ks ≠ []) (hr : ∀ k ∈ ks, 0 ≤ k ∧ k < 256) (hh : A.handled = none) (F : Fr h₀ env.locals s.heap m₀) (N : News h₀ env.locals s.heap news) (hy : m₀ y = some (.int 0 t0))
    (miss : ∀ k, 0 ≤ k → k < 256 → ∀ t t0' h tk own, OwnOff own (news.map (·.1)) → Fr h₀ env.locals h (fun z => if z = x then some (.int k t) else if z = y then some (.int 0 t0') else m₀ z) → News h₀ env.locals h (news ++ own) →
      wpAny (model prog w) A (execs body env) (fun _ _ => False) E { s with heap := h, toks := tk }) :
    wpAny (model prog w) A (pyIter (.bytes (byteArr ks) tb)) (fun it s₂ => LoopAtV prog w A h₀ env x body Q E it s₂) E s := by
  cases ks with
  | nil => exact absurd rfl hne
  | cons d rest =>
    have hd := hr d (.head _)
    exact loopFirst hd (fun k hk => hr k (.tail _ hk)) hh F N hy (miss d hd.1 hd.2)
theorem loopMid {p q : Nat} {c d : Int} {tb t0 : Tok} (hc : 0 ≤ c ∧ c < 256) (hd : 0 ≤ d ∧ d < 256) (hh : A.handled = none) (F : Fr h₀ env.locals s.heap m₀) (N : News h₀ env.locals s.heap news) (hy : m₀ y = some (.int 0 t0))
    (turn : ∀ t t0' h tk own, OwnOff own (news.map (·.1)) → Fr h₀ env.locals h (fun z => if z = x then some (.int c t) else if z = y then some (.int 0 t0') else m₀ z) → News h₀ env.locals h (news ++ own) →
      wpAny (model prog w) A (execs body env) (InvPostN h₀ env.locals (Turned x y m₀ news) own (news.map (·.1)) { s with heap := h, toks := tk } Q) E { s with heap := h, toks := tk })
    (miss : ∀ t t0' h tk own, OwnOff own (news.map (·.1)) → Fr h₀ env.locals h (fun z => if z = x then some (.int d t) else if z = y then some (.int 0 t0') else m₀ z) → News h₀ env.locals h (news ++ own) →
      wpAny (model prog w) A (execs body env) (fun _ _ => False) E { s with heap := h, toks := tk }) :
    wpAny (model prog w) A (pyIter (.bytes (byteArr (List.replicate p c ++ [d] ++ List.replicate q c)) tb)) (fun it s₂ => LoopAtV prog w A h₀ env x body Q E it s₂) E s := by
  rw [mid_split]
  exact loopMiss hc hd (rep_in hc) hh F N hy turn miss
theorem in_range_nil : ∀ k ∈ ([] : List Int), 0 ≤ k ∧ k < 256 := fun _ h => nomatch h
theorem in_range_cons {c : Int} {ls : List Int} (h : 0 ≤ c ∧ c < 256) (h' : ∀ k ∈ ls, 0 ≤ k ∧ k < 256) : ∀ k ∈ c :: ls, 0 ≤ k ∧ k < 256 := fun k hk => (List.mem_cons.mp hk).elim (fun e => e ▸ h) (h' k)
theorem in_range_app {ks ls : List Int} (h : ∀ k ∈ ks, 0 ≤ k ∧ k < 256) (h' : ∀ k ∈ ls, 0 ≤ k ∧ k < 256) : ∀ k ∈ ks ++ ls, 0 ≤ k ∧ k < 256 := fun k hk => (List.mem_append.mp hk).elim (h k) (h' k)
theorem not_in_nil {c : Int} : c ∉ ([] : List Int) := fun h => nomatch h
theorem not_in_one {c d : Int} (h : c ≠ d) : c ∉ ([d] : List Int) := fun q => h (List.mem_singleton.mp q)
def IsZero (v : Value) : Prop := ∃ t, v = .int 0 t
theorem isZero (t : Tok) : IsZero (.int 0 t) := ⟨t, rfl⟩
def IsTrue (v : Value) : Prop := v = .bool true
theorem isTrue_ : IsTrue (.bool true) := rfl
theorem zeroMul {n : Nat} {t u : Tok} {Q : Value → Shared → Prop} (hn : n ≤ 1) (h : ∀ t' k, Q (.int 0 t') { heap := s.heap, gens := s.gens, drawn := s.drawn, toks := k, os := s.os }) : wpAny (model prog w) A (binaryOp .Mult (.int 0 t) (.int (n : Int) u)) Q E s := by
  have hc : n = 0 ∨ n = 1 := by omega
  rcases hc with rfl | rfl
  · exact mul_int (h _ _)
  · exact mul_int (h _ _)
theorem zeroAdd {t u : Tok} {Q : Value → Shared → Prop} (h : ∀ t' k, Q (.int 0 t') { heap := s.heap, gens := s.gens, drawn := s.drawn, toks := k, os := s.os }) : wpAny (model prog w) A (binaryOp .Add (.int 0 t) (.int 0 u)) Q E s := by
  refine add_int ?_
  rw [Int.zero_add]
  exact h _ _
end
end Mine
end
section
open PySem PySem.W PyProof.Rows PySem.Calls
namespace Mine
section
variable {M : Model} {A : Around} {E : Value → Shared → Prop} {s' : Shared} {base g g₂ h : Heap} {outer : List Env} {L a e : Addr} {m : Str → Option Value} {name : Str} {scope : Scope} {cd : Value} {Q : Unit → Shared → Prop} {news : List (Addr × Obj)}
/-- an exception that this very frame raised, at any depth: the traceback's first entry, and the landing -/
theorem own_note {cls : String} (K : Below A base outer g) (hx : Heap.NewExc h s'.heap e cls) (F : Fr g L h m) (N : News g L h news)
    (hQ : ∀ G h', Fr g L G m → RaisedSN base G (envOf name scope L a cd :: outer) e (.type cls) news h' → G.UpToSlots h' → Q () { s' with heap := h' }) (hk : scope.kind = .function := by rfl) :
    wpAny M (A.deeper (envOf name scope L a cd)) (noteFrame (.ref e) (envOf name scope L a cd)) (fun _ s₂ => wpAny M (A.deeper (envOf name scope L a cd)) (setFlight (.ref e) none) Q E s₂) E s' := by
  have K' := K.push (name := name) (a := a) (cd := cd) F hk
  have hin : ∀ env ∈ (envOf name scope L a cd :: outer), ∀ b, env.frame = some b → b ∈ (envOf name scope L a cd :: outer).filterMap (·.frame) := fun env he b hb => List.mem_filterMap.mpr ⟨env, he, hb⟩
  have st : base.StaysIn (hideAll h ((envOf name scope L a cd :: outer).filterMap (·.frame))) := fun b o q => hideAll_get _ (K'.stays b o q) fun hm => by
    rw [(K'.frames.mem hm).1] at q; cases q
  have notFrame : ∀ q ∈ news, q.1 ∉ (envOf name scope L a cd :: outer).filterMap (·.frame) := fun q hq hm => by
    rcases kts_mem hm with z | z
    · exact (N q hq).2.1 z
    · obtain ⟨o, ho, _⟩ := (K.frames.mem z).2
      rw [(N q hq).2.2] at ho; cases ho
  have hl : ∀ q ∈ news, (hideAll h ((envOf name scope L a cd :: outer).filterMap (·.frame))).get? q.1 = some q.2 ∧ (hideAll h (news.map (·.1))).get? q.1 = none ∧ base.get? q.1 = none := fun q hq =>
    ⟨hideAll_get _ (N q hq).1 (notFrame q hq), hideAll_none _ (List.mem_map_of_mem hq), fresh_of_stays K.stays (N q hq).2.2⟩
  have sg : ∀ b o, (hideAll h (news.map (·.1))).get? b = some o → b ∉ (envOf name scope L a cd :: outer).filterMap (·.frame) → (hideAll h ((envOf name scope L a cd :: outer).filterMap (·.frame))).get? b = some o :=
    fun b o q nm => hideAll_get _ (of_hideAll _ q) nm
  have FG : Fr g L (hideAll h (news.map (·.1))) m := by
    refine ⟨F.ns.at' fun o eo => hideAll_get _ eo fun hm => ?_, fun b o eo => hideAll_get _ (F.keep b o eo) fun hm => ?_, F.above⟩
    · obtain ⟨p, hp, q⟩ := List.mem_map.mp hm
      exact (N p hp).2.1 q
    · obtain ⟨p, hp, q⟩ := List.mem_map.mp hm
      rw [← q, (N p hp).2.2] at eo
      cases eo
  obtain ⟨ob, tp, he, hcls, hd⟩ := hx.there
  have hen : (hideAll h ((envOf name scope L a cd :: outer).filterMap (·.frame))).get? e = none := by
    cases q : (hideAll h ((envOf name scope L a cd :: outer).filterMap (·.frame))).get? e with
    | none => rfl
    | some o => have := of_hideAll _ q; rw [hx.new] at this; cases this
  unfold noteFrame
  simp only [show (envOf name scope L a cd).frame = some L from rfl]
  refine wpAny_bind (wpAny_field he hd (x := .none) rfl ?_)
  rw [if_neg (by decide)]
  refine wpAny_entryW (a0 := tp) K'.stack ((funFrames_hide K'.frames hin).of_keeps fun b o hb _ => ⟨o, hx.keeps b o hb, rfl⟩) rfl he (fun b o hb => hx.keeps b o (of_hideAll _ hb)) hen hd (by show 1 < 6; decide) rfl fun h₄ hN => ?_
  obtain ⟨k1, k2, k3, k4⟩ := hN
  rw [hcls] at k3
  refine wpAny_landsW (s := { s' with heap := h₄ }) ⟨k1, hen, k2, k3⟩ fun h₅ hfl hsm => ?_
  refine hQ (hideAll h (news.map (·.1))) h₅ FG ⟨_, tp, st, sg, hl, hfl⟩ ?_
  have u1 : (hideAll h (news.map (·.1))).UpToSlots h := Heap.UpToSlots.of_keeps fun b o q => of_hideAll _ q
  exact ((u1.trans (Heap.UpToSlots.of_keeps hx.keeps)).trans k4).trans hsm
end
end Mine
end
section
open PySem PySem.W PyProof.Rows PySem.Calls
namespace Mine
/-- a new exception object, whatever it remembers of another one -/
structure Born (h h' : Heap) (e : Addr) (cls : String) : Prop where
  keeps : ∀ b o, h.get? b = some o → h'.get? b = some o
  new : h.get? e = none
  there : ∃ ob vs t, h'.get? e = some ob ∧ ob.cls = .type cls ∧ ob.data = .fields vs ∧ vs[0]? = some t ∧ vs[1]? = some .none
theorem entry_unchain : entryFor table "proto.unchain" = some Builtin.«proto.unchain» :=
  entryFor_of_tree (by kernel_rfl)
section
variable {prog : Program} {w : World} {A : Around} {E : Value → Shared → Prop} {s : Shared} {env : Env}
theorem raise_none {X N I : String} (hc : ExcClass X N I) {x : Str} {p1 p2 p3 p4 : Pos} {kd : Nat} {c : Addr} {oc : Obj} {cs : Array Value} {Q : Flow → Shared → Prop}
    (hh : A.handled = some (.ref c)) (hoc : s.heap.get? c = some oc) (hod : oc.data = .fields cs) (h2 : cs[2]? = some .none)
    (hn : ∀ Q : Value → Shared → Prop, Q (.type X) s → wpAny (model prog w) A (eval (.Name x p1) env) Q E s)
    (h : ∀ h' e, Born s.heap h' e X → E (.ref e) { s with heap := h' }) :
    wpAny (model prog w) A (exec (.Raise (some (.Call (.Name x p1) [] [] p2)) (some (.Constant .none kd p3)) p4) env) Q E s := by
  show wpAny _ A (do standAt p4; raiseStmt env (some (do let v ← eval (.Call (.Name x p1) [] [] p2) env; standAt p4; pure v)) (some (do let v ← eval (.Constant .none kd p3) env; standAt p4; pure v))) Q E s
  refine wpAny_bind (wpAny_standAt ?_)
  unfold raiseStmt
  dsimp only
  refine wpAny_bind (wpAny_bind (Call_Name0 (hn _ (callWith_type0 (env := env) (call_exc hc fun h₁ e hx => wpAny_bind (wpAny_standAt (wpAny_pure ?_)))))))
  obtain ⟨ob, t, he, hcls, hd⟩ := hx.there
  have hne : e ≠ c := fun q => by rw [q, ] at hx; have := hx.new; rw [hoc] at this; cases this
  have hT : Shared.TypeIs { s with heap := h₁ } (.ref e) X := ⟨ob, he, hcls⟩
  have hnt : ∀ {s₁ : Shared} {ob : Obj} {vs : Array Value} {Q' : Bool → Shared → Prop}, s₁.heap.get? e = some ob → ob.data = .fields vs → Q' false s₁ → wpAny (model prog w) A (isType (.ref e)) Q' E s₁ := by
    intro s₁ ob vs Q' he hd hq
    simp only [isType, loadHead]
    refine wpAny_bind (wpAny_loadPart he ?_)
    rw [hd]; exact wpAny_pure hq
  refine wpAny_bind (wpAny_holding (wpAny_bind (Constant_none (wpAny_bind (wpAny_standAt (wpAny_pure ?_))))))
  refine wpAny_bind (wpAny_pure ?_)
  refine wpAny_bind (wpAny_holding ?_)
  unfold excFromValue isExcClass
  refine wpAny_bind (wpAny_bind (hnt he hd ?_))
  simp only [Bool.false_eq_true, if_false]
  refine wpAny_pure ?_
  simp only [Bool.false_eq_true, if_false]
  refine wpAny_bind (wpAny_isInstance hT hc.base ?_)
  simp only [if_true]
  refine wpAny_pure ?_
  simp only [beq_self_eq_true, if_true]
  refine wpAny_bind (wpAny_pure ?_)
  refine wpAny_bind (wpAny_setField he hd (by simp) ?_)
  have he₂ := Heap.get?_update_self (Obj.mapFields (·.setIfInBounds 3 Value.none)) he (Obj.isFreed_of_fields (Obj.data_mapFields hd (·.setIfInBounds 3 Value.none)))
  have hd₂ := Obj.data_mapFields hd (·.setIfInBounds 3 Value.none)
  refine wpAny_bind (wpAny_setField he₂ hd₂ (by simp) ?_)
  have he₃ := Heap.get?_update_self (Obj.mapFields (·.setIfInBounds 4 (Value.bool true))) he₂ (Obj.isFreed_of_fields (Obj.data_mapFields hd₂ (·.setIfInBounds 4 (Value.bool true))))
  have hd₃ := Obj.data_mapFields hd₂ (·.setIfInBounds 4 (Value.bool true))
  have hc₃ : ((Obj.mapFields (·.setIfInBounds 4 (Value.bool true)) (Obj.mapFields (·.setIfInBounds 3 Value.none) ob))).cls = .type X := by
    rw [Obj.cls_mapFields, Obj.cls_mapFields]; exact hcls
  have kp₃ : ∀ b o, s.heap.get? b = some o → ((h₁.update e (Obj.mapFields (·.setIfInBounds 3 Value.none))).update e (Obj.mapFields (·.setIfInBounds 4 (Value.bool true)))).get? b = some o := fun b o hb => by
    have hbe : e ≠ b := fun q => by have := hx.new; rw [q, hb] at this; cases this
    rw [Heap.get?_update_other _ _ hbe, Heap.get?_update_other _ _ hbe]
    exact hx.keeps b o hb
  generalize hH : (h₁.update e (Obj.mapFields (·.setIfInBounds 3 Value.none))).update e (Obj.mapFields (·.setIfInBounds 4 (Value.bool true))) = H at he₃ kp₃ ⊢
  refine wpAny_bind (hnt he₃ hd₃ ?_)
  simp only [Bool.false_eq_true, if_false]
  unfold raisedInstance
  refine wpAny_bind (wpAny_bind (wpAny_typeOf (T := X) ⟨_, he₃, hc₃⟩ (wpAny_bind (m := typeOf (.type X)) (wpAny_pure ?_))))
  rw [if_pos hc.metaType]
  refine wpAny_pure ?_
  unfold setFlight raiseNew
  refine wpAny_bind (wpAny_bind (wpAny_field he₃ hd₃ (x := .none) (by simp) ?_))
  rw [if_neg (by decide)]
  refine wpAny_pure (wpAny_bind (wpAny_handled ?_))
  rw [hh]
  dsimp only
  have hne' : (Value.ref c != Value.ref e) = true := by simp [bne_iff_ne]; exact fun q => hne q.symm
  rw [if_pos hne']
  refine wpAny_bind (wpAny_holding (wpAny_runValue (codeAny_builtin entry_unchain ?_)))
  unfold Builtin.«proto.unchain»
  dsimp only
  refine wpAny_bind (wpAny_field (kp₃ _ _ hoc) hod h2 ?_)
  rw [if_pos (by decide)]
  refine wpAny_pure ?_
  refine wpAny_bind ?_
  unfold updateField
  refine wpAny_bind (wpAny_load he₃ ?_)
  rw [hd₃]
  dsimp only
  rw [if_pos (by simp)]
  refine wpAny_update he₃ (wpAny_throw (h _ e ⟨fun b o hb => ?_, hx.new, _, _, t, Heap.get?_update_self _ he₃ (Obj.isFreed_of_fields (Obj.data_mapFields hd₃ _)), ?_, Obj.data_mapFields hd₃ _, ?_, ?_⟩))
  · have hbe : e ≠ b := fun q => by have := hx.new; rw [q, hb] at this; cases this
    rw [Heap.get?_update_other _ _ hbe]; exact kp₃ b o hb
  · rw [Obj.cls_mapFields]; exact hc₃
  · simp
  · simp
end
end Mine
end
section
open PySem PySem.W PyProof.Rows PySem.Calls
namespace Mine
/-- an exception with a first traceback entry; two is what its field 2 holds -/
def Tr (B : Heap) (e : Addr) (cls : Value) (two : Option Value) (fl : Value) (h : Heap) : Prop :=
  ∃ oe vs a0 T oT ts, h.get? e = some oe ∧ (oe.cls = cls ∧ vs[0]? = some a0) ∧ oe.data = .fields vs ∧ vs[1]? = some (.ref T) ∧ vs[2]? = two ∧ B.get? T = none ∧ T ≠ e ∧ h.get? T = some oT ∧ oT.data = .fields ts ∧ ts[3]? = some fl
theorem Tr.traced {B h : Heap} {e : Addr} {cls fl : Value} {two : Option Value} (x : Tr B e cls two fl h) : ∃ a0, h.TracedAtW B e cls a0 fl := by
  obtain ⟨oe, vs, a0, T, oT, ts, q1, q2, q3, q4, q5, q6, q7, q8, q9, q10⟩ := x
  exact ⟨a0, oe, vs, T, oT, ts, q1, q2, q3, q4, q6, q7, q8, q9, q10⟩
theorem Tr.same {B h h' : Heap} {L e : Addr} {cls fl : Value} {two : Option Value} {m : Str → Option Value} (x : Tr B e cls two fl h) (hn : h.Ns L m) (hs : Heap.SameBut L h h') : Tr B e cls two fl h' := by
  obtain ⟨oe, vs, a0, T, oT, ts, q1, q2, q3, q4, q5, q6, q7, q8, q9, q10⟩ := x
  obtain ⟨o, es, ep, ho, hd, _⟩ := hn
  have n1 : e ≠ L := fun q => by rw [q, ho] at q1; cases q1; rw [hd] at q3; cases q3
  have n2 : T ≠ L := fun q => by rw [q, ho] at q8; cases q8; rw [hd] at q9; cases q9
  exact ⟨oe, vs, a0, T, oT, ts, (hs.2 _ n1).trans q1, q2, q3, q4, q5, q6, q7, (hs.2 _ n2).trans q8, q9, q10⟩
theorem Tr.keeps {B h h' : Heap} {e : Addr} {cls fl : Value} {two : Option Value} (x : Tr B e cls two fl h) (k : ∀ b o, h.get? b = some o → h'.get? b = some o) : Tr B e cls two fl h' := by
  obtain ⟨oe, vs, a0, T, oT, ts, q1, q2, q3, q4, q5, q6, q7, q8, q9, q10⟩ := x
  exact ⟨oe, vs, a0, T, oT, ts, k _ _ q1, q2, q3, q4, q5, q6, q7, k _ _ q8, q9, q10⟩
theorem frames_mono {B : Heap} {h h' : Heap} (k : ∀ b o, h.get? b = some o → (∀ vs, o.data ≠ .fields vs) → ∃ o', h'.get? b = some o' ∧ ∀ vs, o'.data ≠ .fields vs) : ∀ {l : List Env}, h.FunFrames B l → h'.FunFrames B l
  | [], _ => trivial
  | _ :: _, ⟨hk, ⟨L, o, hf, hn, ho, hd⟩, hr⟩ => ⟨hk, (let ⟨o', q1, q2⟩ := k L o ho hd; ⟨L, o', hf, hn, q1, q2⟩), frames_mono k hr⟩
theorem frames_same {B h h' : Heap} {L : Addr} {m' : Str → Option Value} (hn' : h'.Ns L m') (hs : Heap.SameBut L h h') {l : List Env} (x : h.FunFrames B l) : h'.FunFrames B l := by
  refine frames_mono (fun b o hb hd => ?_) x
  by_cases q : b = L
  · obtain ⟨o', es, ep, ho, hdd, _⟩ := hn'
    exact ⟨o', by rw [q]; exact ho, fun vs z => by rw [hdd] at z; cases z⟩
  · exact ⟨o, (hs.2 b q).trans hb, hd⟩
/-- what is no record is the same but for its slots, except at L -/
def UpBut (L : Addr) (h h' : Heap) : Prop := ∀ b o, b ≠ L → h.get? b = some o → (∀ vs, o.data ≠ .fields vs) → ∃ sl, h'.get? b = some { o with slots := sl }
theorem UpBut.of {L : Addr} {h h' : Heap} (x : h.UpToSlots h') : UpBut L h h' := fun b o _ e n => x b o e n
theorem UpBut.same {L : Addr} {h h' : Heap} (x : Heap.SameBut L h h') : UpBut L h h' := fun b o n e _ => ⟨o.slots, (x.2 b n).trans e⟩
theorem UpBut.trans {L : Addr} {h₁ h₂ h₃ : Heap} (x : UpBut L h₁ h₂) (y : UpBut L h₂ h₃) : UpBut L h₁ h₃ := fun b o n e d =>
  let ⟨_, e₁⟩ := x b o n e d; let ⟨sl, e₂⟩ := y b _ n e₁ d; ⟨sl, e₂⟩
theorem stays_same {B h h' : Heap} {L : Addr} (hL : B.get? L = none) (x : B.StaysIn h) (hs : Heap.SameBut L h h') : B.StaysIn h' := fun b o e =>
  (hs.2 b fun q => by rw [q, hL] at e; cases e).trans (x b o e)
section
variable {M : Model} {A : Around} {E : Value → Shared → Prop} {s : Shared}
theorem note_first {base : Heap} {env : Env} {outer : List Env} {L e : Addr} {oe : Obj} {vs : Array Value} {a0 : Value} {cls : Value} {Q : Unit → Shared → Prop}
    (hfr : A.frames = some (env :: outer)) (hl : s.heap.FunFrames base (env :: outer)) (hf : env.frame = some L)
    (he : s.heap.get? e = some oe) (hc : oe.cls = cls) (hkb : base.StaysIn s.heap) (hen : base.get? e = none) (hd : oe.data = .fields vs) (h0 : vs[0]? = some a0) (h1 : vs[1]? = some .none)
    (h : ∀ h', base.StaysIn h' → h'.FunFrames base (env :: outer) → s.heap.UpToSlots h' → Tr base e cls vs[2]? (rawInt L) h' → Q () { s with heap := h' }) :
    wpAny M A (noteFrame (.ref e) env) Q E s := by
  subst hc
  have hsz : 1 < vs.size := (Array.getElem?_eq_some_iff.mp h1).1
  unfold noteFrame
  simp only [hf]
  refine wpAny_bind (wpAny_field he hd h1 ?_)
  rw [if_neg (by decide)]
  have hene : e ∉ (env :: outer).filterMap (·.frame) := fun hm => by
    obtain ⟨_, o, ho, hnf⟩ := hl.mem hm
    rw [he] at ho; injection ho with ho; subst ho; exact hnf vs hd
  refine wpAny_bind (wpAny_frameOf_fun hfr hl hf fun h₁ hs₁ => ?_)
  refine wpAny_bind (wpAny_entryPlaceOf fun pl hpl => ?_)
  unfold EntryCells.newEntry newFields
  refine wpAny_bind (wpAny_newObj_type ?_ (hpl.sizeOk5 _ _ _ _ _))
  have he₁ : h₁.get? e = some oe := (hs₁.2.1 e hene).trans he
  have kb₁ : base.StaysIn h₁ := fun b o hbo => (hs₁.2.1 b fun hm => by rw [(hl.mem hm).1] at hbo; cases hbo).trans (hkb b o hbo)
  have he₂ := Heap.get?_push_of_some (h := h₁) { cls := .type "traceback", dict := none, data := .fields ([Value.none, .ref L, .none, rawInt L, .none] ++ (if pl.isEmpty then List.replicate 6 Value.none else pl)).toArray } he₁
  refine wpAny_setField he₂ hd hsz ?_
  have hTe : h₁.objs.size ≠ e := Nat.ne_of_gt (Heap.lt_size he₁)
  have hd₃ := Obj.data_mapFields hd (·.setIfInBounds 1 (Value.ref h₁.objs.size))
  have he₃ := Heap.get?_update_self (Obj.mapFields (·.setIfInBounds 1 (Value.ref h₁.objs.size))) he₂ (Obj.isFreed_of_fields hd₃)
  have hT₃ := (Heap.get?_update_other (h₁.push { cls := .type "traceback", dict := none, data := .fields ([Value.none, .ref L, .none, rawInt L, .none] ++ (if pl.isEmpty then List.replicate 6 Value.none else pl)).toArray })
    (Obj.mapFields (·.setIfInBounds 1 (Value.ref h₁.objs.size))) (Ne.symm hTe)).trans (Heap.get?_push_size h₁ rfl)
  have keep : ∀ b o, b ≠ e → h₁.get? b = some o →
      ((h₁.push { cls := .type "traceback", dict := none, data := .fields ([Value.none, .ref L, .none, rawInt L, .none] ++ (if pl.isEmpty then List.replicate 6 Value.none else pl)).toArray }).update e (Obj.mapFields (·.setIfInBounds 1 (Value.ref h₁.objs.size)))).get? b = some o :=
    fun b o hbe hb => by
      rw [Heap.get?_update_other _ _ (Ne.symm hbe)]
      exact Heap.get?_push_of_some _ hb
  have noRecord : ∀ b o, s.heap.get? b = some o → (∀ vs, o.data ≠ .fields vs) → b ≠ e := fun b o hb hnf q => by
    rw [q, he] at hb; injection hb with hb; subst hb; exact hnf vs hd
  refine h _ (fun b o hbo => keep b o (fun q => by rw [q, hen] at hbo; cases hbo) (kb₁ b o hbo)) (hl.of_keeps fun b o hb hnf => ?_) (fun b o hb hnf => ?_) ?_
  · obtain ⟨sl, hs⟩ := hs₁.2.2 b o hb
    exact ⟨_, keep b _ (noRecord b o hb hnf) hs, rfl⟩
  · obtain ⟨sl, hs⟩ := hs₁.2.2 b o hb
    exact ⟨sl, keep b _ (noRecord b o hb hnf) hs⟩
  · exact ⟨_, _, a0, h₁.objs.size, _, _, he₃, ⟨Obj.cls_mapFields _ _, by rw [Array.getElem?_setIfInBounds_ne (by decide)]; exact h0⟩, hd₃, by simp [hsz], by rw [Array.getElem?_setIfInBounds_ne (by decide)], kb₁.fresh, hTe, hT₃, rfl, by first | (simp; done) | (rcases hpl with rfl | ⟨_, _, _, _, _, _, _, rfl⟩ <;> simp)⟩
theorem set_flight {base : Heap} {l : List Env} {e : Addr} {cls fl : Value} {two : Option Value} {fr : Option Addr} {Q : Unit → Shared → Prop}
    (hkb : base.StaysIn s.heap) (hl : s.heap.FunFrames base l) (ht : Tr base e cls two fl s.heap)
    (h : ∀ h', base.StaysIn h' → h'.FunFrames base l → s.heap.UpToSlots h' → Tr base e cls two (fr.elim .none fun f => rawInt f) h' → Q () { s with heap := h' }) :
    wpAny M A (setFlight (.ref e) fr) Q E s := by
  obtain ⟨oe, vs, a0, T, oT, ts, he, hcls, hd, h1, h2, hnT, hTe, hT, hdT, h3⟩ := ht
  have hsz3 : 3 < ts.size := (Array.getElem?_eq_some_iff.mp h3).1
  have other : ∀ b, b ≠ T → (s.heap.update T (Obj.mapFields (·.setIfInBounds 3 (fr.elim Value.none fun f => rawInt f)))).get? b = s.heap.get? b :=
    fun b hb => Heap.get?_update_other _ _ (Ne.symm hb)
  have noRecord : ∀ b o, s.heap.get? b = some o → (∀ vs, o.data ≠ .fields vs) → b ≠ T := fun b o hb hnf q => by
    rw [q, hT] at hb; injection hb with hb; subst hb; exact hnf ts hdT
  unfold setFlight
  refine wpAny_bind (wpAny_field he hd h1 ?_)
  rw [if_pos (show (Value.ref T != Value.none) = true from by simp)]
  refine wpAny_setField hT hdT hsz3 (h _ (fun b o hbo => (other b fun q => by rw [q, hnT] at hbo; cases hbo).trans (hkb b o hbo))
    (hl.of_keeps fun b o hb hnf => ⟨o, (other b (noRecord b o hb hnf)).trans hb, rfl⟩) (fun b o hb hnf => ⟨o.slots, (other b (noRecord b o hb hnf)).trans hb⟩) ?_)
  exact ⟨oe, vs, a0, T, _, _, (other e (Ne.symm hTe)).trans he, hcls, hd, h1, h2, hnT, hTe, Heap.get?_update_self _ hT (Obj.isFreed_of_fields (Obj.data_mapFields hdT _)), Obj.data_mapFields hdT _, by simp [hsz3]⟩
theorem has_entry {base : Heap} {e : Addr} {cls fl : Value} {two : Option Value} {Q : Value → Shared → Prop} (ht : Tr base e cls two fl s.heap) (h : ∀ T, Q (.ref T) s) : wpAny M A (field (.ref e) 1) Q E s := by
  obtain ⟨oe, vs, a0, T, oT, ts, he, hcls, hd, h1, h2, hnT, hTe, hT, hdT, h3⟩ := ht
  exact wpAny_field he hd h1 (h T)
end
end Mine
end
section
open PySem PySem.W PyProof.Rows PySem.Calls
namespace Mine
/-- an exception in flight at its own frame env, of a body that began on g -/
def HeldG (base g : Heap) (env : Env) (outer : List Env) (L e : Addr) (cls : Value) (news : List (Addr × Obj)) (h : Heap) : Prop :=
  ∃ B, base.StaysIn B ∧ (∀ b o, g.get? b = some o → b ∉ outer.filterMap (·.frame) → B.get? b = some o) ∧ (∀ q ∈ news, B.get? q.1 = some q.2 ∧ g.get? q.1 = none ∧ base.get? q.1 = none) ∧
    (∃ a0, Heap.HeldW B (env :: outer) e cls a0 L h) ∧ g.UpToSlots h
section
variable {M : Model} {A : Around} {E : Value → Shared → Prop} {s' : Shared} {base g : Heap} {outer : List Env} {L a e : Addr} {name : Str} {scope : Scope} {cd : Value} {Q : Unit → Shared → Prop} {news : List (Addr × Obj)} {cls : Value}
theorem leave_held (R : HeldG base g (envOf name scope L a cd) outer L e cls news s'.heap)
    (hQ : ∀ h', RaisedSN base g outer e cls news h' → RaisedN base outer e cls news h' → g.UpToSlots h' → Q () { s' with heap := h' }) :
    wpAny M A (leaving (envOf name scope L a cd) (.ref e)) Q E s' := by
  obtain ⟨B, hB, hBg, hl, ⟨a0, hh⟩, hu⟩ := R
  unfold leaving
  refine wpAny_bind (wpAny_noteFrame_againW rfl hh.2.2.2 ?_)
  refine wpAny_landsW hh fun h' hfl hsm => ?_
  obtain ⟨k1, k2, ⟨_, _, k3⟩, k4⟩ := hfl
  have R : RaisedSN base g outer e cls news h' := ⟨B, a0, hB, hBg, hl, k1, k2, k3, k4⟩
  exact hQ h' R R.toN (hu.trans hsm)
end
section
variable {prog : Program} {w : World} {A₀ : Around} {E : Value → Shared → Prop} {s' : Shared} {base g h : Heap} {outer : List Env} {L a e : Addr} {m : Str → Option Value} {name : Str} {scope : Scope} {cd : Value}
  {n : Str} {pos np p1 p2 p3 p4 : Pos} {kd : Nat} {rest : List ExceptHandler} {Q : Flow → Shared → Prop} {news : List (Addr × Obj)} {KF : Frag}
  {p : Program} {loose : List Str} {mean : ExcName → Option Value} {mg mb : Str → Option Value}
/-- «except KeyError as n: raise ValueError() from None», of a KeyError that this very body raised -/
theorem key_to_value (K : Below A₀ base outer g) (hx : Heap.NewExc h s'.heap e "KeyError") (F : Fr g L h m) (N : News g L h news) (XB : KF.In base) (TB : Top p loose mean mg mb base)
    (exK : nsIn KF mainGlobals ("KeyError" : Str) = some none) (exV : nsIn KF mainGlobals ("ValueError" : Str) = some none)
    (k : ∀ e' h' tk, HeldG base g (envOf name scope L a cd) outer L e' (.type "ValueError") news h' → E (.ref e') { s' with heap := h', toks := tk })
    (hk : scope.kind = .function := by rfl) (hlo : (envOf name scope L a cd).kindOf n = some .local := by rfl)
    (hxK : (envOf name scope L a cd).kindOf ("KeyError" : Str) = some .globalImplicit := by rfl) (hxV : (envOf name scope L a cd).kindOf ("ValueError" : Str) = some .globalImplicit := by rfl) :
    wpAny (model prog w) (A₀.deeper (envOf name scope L a cd)) (noteFrame (.ref e) (envOf name scope L a cd))
      (fun _ s₂ => wpAny (model prog w) (A₀.deeper (envOf name scope L a cd)) (setFlight (.ref e) none) (fun _ s₃ =>
        wpAny (model prog w) (A₀.deeper (envOf name scope L a cd)) (handleBy (.ref e) (envOf name scope L a cd)
          (.ExceptHandler (some (.Name ("KeyError" : Str) np)) (some n) [.Raise (some (.Call (.Name ("ValueError" : Str) p1) [] [] p2)) (some (.Constant .none kd p3)) p4] pos :: rest)) Q E s₃) E s₂) E s' := by
  have K' := K.push (name := name) (a := a) (cd := cd) F hk
  have hin : ∀ env ∈ (envOf name scope L a cd :: outer), ∀ b, env.frame = some b → b ∈ (envOf name scope L a cd :: outer).filterMap (·.frame) := fun env he b hb => List.mem_filterMap.mpr ⟨env, he, hb⟩
  have hLm : L ∈ (envOf name scope L a cd :: outer).filterMap (·.frame) := hin _ (.head _) L rfl
  generalize hB0 : hideAll h ((envOf name scope L a cd :: outer).filterMap (·.frame)) = B
  have st : base.StaysIn B := fun b o q => by
    rw [← hB0]
    exact hideAll_get _ (K'.stays b o q) fun hm => by rw [(K'.frames.mem hm).1] at q; cases q
  have BL : B.get? L = none := by rw [← hB0]; exact hideAll_none _ hLm
  have Bh : ∀ b o, B.get? b = some o → h.get? b = some o := fun b o q => by rw [← hB0] at q; exact of_hideAll _ q
  have notFrame : ∀ q ∈ news, q.1 ∉ (envOf name scope L a cd :: outer).filterMap (·.frame) := fun q hq hm => by
    rcases kts_mem hm with z | z
    · exact (N q hq).2.1 z
    · obtain ⟨o, ho, _⟩ := (K.frames.mem z).2
      rw [(N q hq).2.2] at ho; cases ho
  have hl : ∀ q ∈ news, B.get? q.1 = some q.2 ∧ g.get? q.1 = none ∧ base.get? q.1 = none := fun q hq =>
    ⟨by rw [← hB0]; exact hideAll_get _ (N q hq).1 (notFrame q hq), (N q hq).2.2, fresh_of_stays K.stays (N q hq).2.2⟩
  have gB : ∀ b o, g.get? b = some o → b ∉ outer.filterMap (·.frame) → B.get? b = some o := fun b o q nm => by
    rw [← hB0]
    refine hideAll_get _ (F.keep b o q) fun hm => ?_
    rcases kts_mem hm with z | z
    · rw [z, kts_self F] at q; cases q
    · exact nm z
  have hB : ∀ b o, h.get? b = some o → b ∉ (envOf name scope L a cd :: outer).filterMap (·.frame) → B.get? b = some o := fun b o q nm => by
    rw [← hB0]; exact hideAll_get _ q nm
  have fB : h.FunFrames B (envOf name scope L a cd :: outer) := by rw [← hB0]; exact funFrames_hide K'.frames hin
  obtain ⟨ob, tp, he, hcls, hd⟩ := hx.there
  have Bnew : ∀ {b : Addr}, h.get? b = none → B.get? b = none := fun {b} q => by
    cases z : B.get? b with
    | none => rfl
    | some o => have := Bh _ _ z; rw [q] at this; cases this
  have hu0 : h.UpToSlots s'.heap := Heap.UpToSlots.of_keeps hx.keeps
  have f0 : s'.heap.FunFrames B (envOf name scope L a cd :: outer) := fB.of_keeps fun b o hb _ => ⟨o, hx.keeps b o hb, rfl⟩
  have b0 : B.StaysIn s'.heap := fun b o hb => hx.keeps b o (Bh b o hb)
  have stack' : (A₀.deeper (envOf name scope L a cd)).frames = some (envOf name scope L a cd :: outer) := K'.stack
  refine note_first stack' f0 rfl he hcls b0 (Bnew hx.new) hd (a0 := tp) rfl rfl fun h₁ b1 f1 u1 t1 => ?_
  refine set_flight (s := { s' with heap := h₁ }) b1 f1 t1 fun h₂ b2 f2 u2 t2 => ?_
  have u02 : h.UpToSlots h₂ := (hu0.trans u1).trans u2
  -- the test
  obtain ⟨g₅, T₅, F₅, K₅⟩ := kts_ground K F hB b2 u02
  have t2' := t2
  obtain ⟨oe, _, _, _, _, _, hoe, ⟨hoc, _⟩, _⟩ := t2
  have X₅ : KF.In g₅ := XB.keeps K₅.stays
  have P₅ : TopRead p loose mg mb g₅ := topRead_of (TB.keeps K₅.stays)
  refine wpAny_handleBy_builtin_as (s := { s' with heap := h₂ }) (X := "KeyError") (T := "KeyError") (b := true) kr_isExc_KeyError kr_notTuple_KeyError (isSubtype_of_subB (by decide +kernel))
    (name_B F₅ X₅ P₅ exK PyProof.Rows.Boot.«KeyError» (by decide) ⟨rfl, ⟨_, hoe, hoc⟩, ?_⟩ hk hxK (by decide))
  rw [if_pos rfl]
  refine set_flight (s := { s' with heap := h₂ }) b2 f2 t2' fun h₃ b3 f3 u3 t3 => ?_
  have u03 : h.UpToSlots h₃ := u02.trans u3
  obtain ⟨g₆, T₆, F₆, K₆⟩ := kts_ground K F hB b3 u03
  have X₆ : KF.In g₆ := XB.keeps K₆.stays
  have P₆ : TopRead p loose mg mb g₆ := topRead_of (TB.keeps K₆.stays)
  have hp : ((envOf name scope L a cd).scope.kind == .class || ((envOf name scope L a cd).scope.kind == .module && (envOf name scope L a cd).locals != (envOf name scope L a cd).globals)) = false := by
    show (scope.kind == .class || (scope.kind == .module && L != mainGlobals)) = false; rw [hk]; rfl
  refine wpAny_storeName_local (s := { s' with heap := h₃ }) hlo F₆.ns (fun h₄ n4 s4 => ?_) hp
  have F₇ := F₆.set n4 s4
  have t4 := t3.same F₆.ns s4
  have b4 : B.StaysIn h₄ := stays_same BL b3 s4
  have f4 : h₄.FunFrames B (envOf name scope L a cd :: outer) := frames_same n4 s4 f3
  have u4 : UpBut L h h₄ := (UpBut.of u03).trans (UpBut.same s4)
  -- the suite: one statement, that raises
  rw [execs_cons]
  obtain ⟨oe4, vs4, _, _, _, _, hoe4, _, hvd4, _, htwo4, _⟩ := t4
  refine wpAny_bind (raise_none (s := { heap := h₄, gens := s'.gens, drawn := s'.drawn, toks := s'.toks + 1, os := s'.os }) excClass_ValueError rfl hoe4 hvd4 htwo4
    (fun Q q => name_B F₇ X₆ P₆ exV PyProof.Rows.Boot.«ValueError» (by decide) q hk hxV (by decide)) fun h₅ e₂ hb => ?_)
  obtain ⟨o5, vs5, t5, he5, hc5, hd5, z5, y5⟩ := hb.there
  have n5 : h₅.Ns L _ := n4.keeps hb.keeps
  have b5 : B.StaysIn h₅ := fun b o q => hb.keeps _ _ (b4 b o q)
  have f5 : h₅.FunFrames B (envOf name scope L a cd :: outer) := f4.of_keeps fun b o q _ => ⟨o, hb.keeps _ _ q, rfl⟩
  have e5 : B.get? e₂ = none := by
    cases z : B.get? e₂ with
    | none => rfl
    | some o => have := b4 _ _ z; rw [hb.new] at this; cases this
  have u5 : UpBut L h h₅ := u4.trans (UpBut.of (Heap.UpToSlots.of_keeps hb.keeps))
  have stack'' : ((A₀.deeper (envOf name scope L a cd)).mark (some (.ref e))).frames = some (envOf name scope L a cd :: outer) := K'.stack
  refine note_first stack'' f5 rfl he5 hc5 b5 e5 hd5 z5 y5 fun h₆ b6 f6 u6 t6 => ?_
  have n6 := u6.ns n5
  refine wpAny_nameGoes (s := { heap := h₆, gens := s'.gens, drawn := s'.drawn, toks := s'.toks + 1, os := s'.os }) hlo n6 hp fun h₇ m₇ n7 s7 => ?_
  have t7 := t6.same n6 s7
  have b7 : B.StaysIn h₇ := stays_same BL b6 s7
  have f7 : h₇.FunFrames B (envOf name scope L a cd :: outer) := frames_same n7 s7 f6
  have u7 : UpBut L h h₇ := (u5.trans (UpBut.of u6)).trans (UpBut.same s7)
  unfold PySem.passOn
  refine wpAny_bind (has_entry t7 fun T => ?_)
  rw [if_neg (by simp)]
  refine wpAny_bind (set_flight b7 f7 t7 fun h₈ b8 f8 u8 t8 => ?_)
  refine wpAny_throw ?_
  show wpAny _ _ (noteFrame _ _) _ _ _
  obtain ⟨a8, t8'⟩ := t8.traced
  refine wpAny_noteFrame_againW rfl t8' ?_
  show wpAny _ _ _ _ _ _
  refine wpAny_bind (has_entry t8 fun T => ?_)
  rw [if_neg (by simp)]
  refine set_flight b8 f8 t8 fun h₉ b9 f9 u9 t9 => ?_
  obtain ⟨a9, t9'⟩ := t9.traced
  refine k e₂ h₉ _ ⟨B, st, gB, hl, ⟨a9, b9, e5, f9, t9'⟩, fun b o q nf => ?_⟩
  have hbL : b ≠ L := fun z => by rw [z, kts_self F] at q; cases q
  exact ((u7.trans (UpBut.of u8)).trans (UpBut.of u9)) b o hbL (F.keep b o q) nf
theorem no_news {g h : Heap} {L : Addr} {news : List (Addr × Obj)} (_ : News g L h news) : News g L h [] := fun _ hq => nomatch hq
end
end Mine
end
section
open PySem PySem.W PyProof.Rows PySem.Calls
namespace Mine
abbrev ByteAt (ks : List Int) (i : Nat) (v : Value) : Prop := ∃ c u, (byteArr ks)[i]? = some c ∧ v = .int (c.toNat : Int) u
def SrcB (prog : Program) (w : World) (A : Around) (h₀ : Heap) (L : Addr) (m : Str → Option Value) (env : Env) (elt : Expr) (x : Str) (scope : Scope) (cl : List (Str × Addr)) (Fin : Shared → List Value → List (Addr × Obj) → Prop) (xv : Value) (s₁ : Shared) : Prop :=
  ∃ ks t news, xv = .bytes (byteArr ks) t ∧ A.handled = none ∧ Fr h₀ L s₁.heap m ∧ News h₀ L s₁.heap news ∧ ks.length ≤ sizeLine ∧
    ∀ s₂ : Shared, (∃ h, s₂ = { s₁ with heap := h }) → LCg.CompRest prog w A h₀ L m env elt x scope cl s₂ (fun _ => True) (ByteAt ks) (Fin s₂) ks.length 0 [] news
section
variable {prog : Program} {w : World} {A : Around} {E : Value → Shared → Prop} {s : Shared} {h₀ : Heap} {L : Addr} {m : Str → Option Value} {env : Env} {news : List (Addr × Obj)}
theorem bytes_st {I : Addr} {b : Array UInt8} {t : Tok} : ∀ i (h h' : Heap) (o : Obj) (nw : List (Addr × Obj)), KBw.IsBytesIter h I b t i → h.get? I = some o → h'.get? I = some o → (∀ b o, h₀.get? b = some o → h'.get? b = some o) → News h₀ L h' nw → True → KBw.IsBytesIter h' I b t i :=
  fun i h h' o nw st e e' _ _ _ => by obtain ⟨o', q, r⟩ := st; rw [e] at q; cases q; exact ⟨o, e', r⟩
theorem ListComp_B {elt iter : Expr} {x : Str} {px : Pos} {scope : Scope} {cl : List (Str × Addr)} {pos : Pos} {Q : Value → Shared → Prop} (_F₀ : Fr h₀ L s.heap m)
    (hclos : closureFor scope env = pure cl) (hcell : ∀ y ∈ scope.names, y.2 ≠ .cell) (hkind : scope.kind = .function)
    (hnames : ∀ y ∈ scope.names, y.2 = .local → scope.names.lookup y.1 = some .local) (hx : scope.names.lookup x = some .local)
    (h : wpAny (model prog w) A (eval iter env) (SrcB prog w A h₀ L m env elt x scope cl (fun s₂ => LCg.FinE h₀ L m s₂ Q)) E s)
    (hs : ∀ x, foldedSetIterable iter env x = pure x := by intro _; rfl) :
    wpAny (model prog w) A (eval (.ListComp elt [⟨.Name x px, iter, [], 0⟩] scope pos) env) Q E s := by
  rw [eval_ListComp]
  refine wpAny_comprehension_free (use := none) rfl hs hclos hkind hnames (wpAny_mono h (fun xv s₁ h₁ => ?_) fun _ _ e => e)
  obtain ⟨ks, t, news, rfl, hh, F, N, hsz, R⟩ := h₁
  refine KBw.pyIter_bytes ?_
  have up : ∀ b o, s₁.heap.get? b = some o → (s₁.heap.push { cls := .type "bytes_iterator", data := .fields #[.bytes (byteArr ks) t, .int 0 0] }).get? b = some o := fun b o e => Heap.get?_push_of_some _ e
  have W := KBw.walks (prog := prog) (w := w) hh s₁.heap.objs.size (byteArr ks) t
  rw [byteArr_size] at W
  refine LCg.block_U W hsz (fun i h st => by obtain ⟨o, e, _⟩ := st; exact ⟨o, e⟩) bytes_st hcell hkind hx ⟨_, Heap.get?_push_size _ rfl, rfl, rfl⟩ (fun b hb => ?_)
    (F.keeps up) (N.grown up) (Nat.ne_of_lt F.ns.lt) (next_is_new F) (fun p hp => Nat.ne_of_lt (Heap.lt_size (N p hp).1)) trivial (R _ ⟨_, rfl⟩) ?_
  · rw [List.mem_singleton.mp hb]
    show s₁.heap.objs.size < (s₁.heap.push _).objs.size
    rw [Heap.size_push]; exact Nat.lt_succ_self _
  · intro D C h tk m' ys news' F' N' o1 hn hC₀ hD₀ hCL hDL hCD offC fin
    refine ⟨m', hn, fun h'' hs'' => fin D h'' tk (F'.change hs'' hCL hC₀) (fun p hp => ?_) o1⟩
    refine ⟨hs''.extBut _ _ ?_ (N' p hp).1, (N' p hp).2⟩
    rcases List.mem_cons.mp hp with rfl | hp
    · exact Ne.symm hCD
    · exact offC p hp
theorem srcB_end {elt : Expr} {x : Str} {scope : Scope} {cl : List (Str × Addr)} {Fin : Shared → List Value → List (Addr × Obj) → Prop} {ks : List Int} {t : Tok} {s₁ : Shared}
    (hh : A.handled = none) (F : Fr h₀ L s₁.heap m) (N : News h₀ L s₁.heap news) (hsz : ks.length ≤ sizeLine)
    (h : ∀ g, LCg.CompRest prog w A h₀ L m env elt x scope cl { s₁ with heap := g } (fun _ => True) (ByteAt ks) (Fin { s₁ with heap := g }) ks.length 0 [] news) :
    SrcB prog w A h₀ L m env elt x scope cl Fin (.bytes (byteArr ks) t) s₁ := ⟨ks, t, news, rfl, hh, F, N, hsz, fun _ ⟨g, e⟩ => e ▸ h g⟩
variable {elt : Expr} {x : Str} {scope : Scope} {cl : List (Str × Addr)} {S : List (Addr × Obj) → Prop} {Fin : List Value → List (Addr × Obj) → Prop}
theorem text_bytes {ks : List Int} (hr : ∀ k ∈ ks, 0 ≤ k ∧ k < 256) (g : Int → PySem.Str)
    (turn : ∀ k t I oI C oC D m₂ ys h tk (E' : Value → Shared → Prop), 0 ≤ k → k < 256 → LCg.NsObj oC m₂ → m₂ x = some (.int k t) → Fr h₀ L h m → News h₀ L h ((I, oI) :: (C, oC) :: (D, LCg.lst ys) :: news) → LCg.Off3 I C D news → ((@Ne Nat I C) ∧ (@Ne Nat I D) ∧ (@Ne Nat C D)) → KPfMark →
      wpAny (model prog w) A (eval elt (compEnvC scope cl C env)) (LCg.CompEnd h₀ L m { s with heap := h, toks := tk } I oI C oC D (LCg.lst ys) S (fun y news' => KCtEl news (g k) y news')) E' { s with heap := h, toks := tk })
    (fin : KPfDone (∀ ys, CarriedAll ys (ks.map fun k => PyData.str (g k)) → ks.length = ks.length → Fin ys news)) : LCg.CompRest prog w A h₀ L m env elt x scope cl s S (ByteAt ks) Fin ks.length 0 [] news :=
  kct_rest (ks := ks) g rfl (fun i v _ hv => by
    obtain ⟨c, u, hc, rfl⟩ := hv
    have e := KBw.ints_get hc
    rw [bInts_byteArr hr] at e
    exact ⟨_, u, e, rfl⟩)
    (fun k t I oI C oC D m₂ ys h tk E' hk hC hx F N off ne mk => turn k t I oI C oC D m₂ ys h tk E' (hr k hk).1 (hr k hk).2 hC hx F N off ne mk) fin
end
end Mine
end
section
open PySem PySem.W PyProof.Rows PySem.Calls
namespace Mine
open PySem.Builtin PySem.Builtin.Str PySem.Builtin._codecs
def strOf (ks : List Int) : PySem.Str := ⟨(ks.map (·.toNat)).toArray⟩
theorem road_ascii (id : String) (self : Value) (x : PySem.Str) (errors : Option PySem.Str) : encodeRoad id self x (Str.ofString "ascii") errors = (do mkBytes (← encodeNarrow id asciiCodec errors self x)) := by
  first | rfl | (unfold encodeRoad; rfl) | (unfold encodeRoad; simp only []; rfl) | decide
theorem loop2 {σ : Type} (l : List Nat) (f : Nat → σ → Sem (ForInStep σ)) (a b : σ) (ha : ∀ x, f x a = pure (.yield b)) (hb : ∀ x, f x b = pure (.done b)) (hne : l ≠ []) : forIn l a f = pure b := by
  cases l with
  | nil => exact absurd rfl hne
  | cons x r =>
    rw [List.forIn_cons, ha, pure_bind]
    cases r with
    | nil => rfl
    | cons y r => 
      show forIn (y :: r) b f = _
      rw [List.forIn_cons, hb, pure_bind]
theorem fold_ascii : ∀ (l : List Nat) (a : List UInt8), l.foldl (fun acc y => acc ++ (asciiCodec.bytesOf y).toArray) a.toArray = (a ++ l.map (·.toUInt8)).toArray
  | [], a => by simp
  | y :: r, a => by
    have h := fold_ascii r (a ++ [y.toUInt8])
    simp only [List.foldl_cons, List.map_cons]
    rw [show (a.toArray ++ (asciiCodec.bytesOf y).toArray) = (a ++ [y.toUInt8]).toArray from by simp [asciiCodec]]
    rw [h]; simp
theorem narrow_ascii (id : String) (self : Value) (ks : List Int) (h1 : ∀ k ∈ ks, 0 ≤ k ∧ k < 128) (hsz : ks.length ≤ sizeLine) : encodeNarrow id asciiCodec none self (strOf ks) = pure (byteArr ks) := by
  unfold encodeNarrow
  dsimp only
  rw [Std.Legacy.Range.forIn_eq_forIn_range']
  by_cases hne : ks = []
  · subst hne; rfl
  have hl : (strOf ks).cps = (ks.map (·.toNat)).toArray := rfl
  have hlen : (strOf ks).length = ks.length := by show (strOf ks).cps.size = _; simp [strOf]
  have hbad : ∀ x ∈ ks.map (·.toNat), asciiCodec.bad x = false := by
    intro x hx
    obtain ⟨k, hk, rfl⟩ := List.mem_map.mp hx
    have := h1 k hk
    simp [asciiCodec]
    omega
  rw [loop2 _ _ _ (ks.length, byteArr ks, ({} : Faults))]
  · rw [pure_bind]
  · intro x
    obtain ⟨k, r, rfl⟩ : ∃ k r, ks = k :: r := by cases ks with | nil => exact absurd rfl hne | cons k r => exact ⟨k, r, rfl⟩
    rw [if_neg (by simp)]
    rw [hl]
    simp only [List.map_cons, List.getElem?_toArray, List.getElem?_cons_zero]
    rw [if_pos (by rw [hbad _ (by simp)]; rfl)]
    have e1 : ((k.toNat :: List.map (·.toNat) r).toArray).extract 0 = (k.toNat :: List.map (·.toNat) r).toArray := Array.extract_size
    rw [e1]
    have e2 : Array.findIdx? asciiCodec.bad (k.toNat :: List.map (·.toNat) r).toArray = none := by
      rw [Array.findIdx?_eq_none_iff]
      intro y hy
      exact hbad y (by simpa using hy)
    rw [e2]
    simp only [Option.getD_none]
    rw [Array.extract_size]
    have e3 := fold_ascii (k.toNat :: List.map (·.toNat) r) []
    rw [List.foldl_toArray', e3]
    · simp [byteArr, Function.comp_def]
    · rfl
  · intro x
    rw [if_neg (by rw [byteArr_size]; omega)]
    rw [hl]
    simp only [List.getElem?_toArray]
    rw [List.getElem?_eq_none (by simp)]
  · rw [hlen]
    cases ks with
    | nil => exact absurd rfl hne
    | cons k r => simp [Std.Legacy.Range.size, List.range'_eq_nil_iff]
end Mine
end
section
open PySem PySem.W PyProof.Rows PySem.Calls
namespace Mine
open PySem.Builtin PySem.Builtin.Str PySem.Builtin._codecs
theorem strOf_length (ks : List Int) : (strOf ks).length = ks.length := by show (strOf ks).cps.size = _; simp [strOf]
theorem solid_no_uspace {k : Int} (h : Solid k) : Unicode.isSpace k.toNat = false := by
  have key : ∀ n : Fin 127, 33 ≤ n.val → Unicode.isSpace n.val = false := by decide +kernel
  exact key ⟨k.toNat, by unfold Solid at h; omega⟩ (by unfold Solid at h; show 33 ≤ k.toNat; omega)
theorem blank_uspace {k : Int} (h : k = 32 ∨ k = 10 ∨ k = 9 ∨ k = 13) : Unicode.isSpace k.toNat = true := by
  rcases h with rfl | rfl | rfl | rfl <;> decide +kernel
theorem take_all {α : Type} {p : α → Bool} : ∀ {xs ys : List α}, (∀ x ∈ xs, p x = true) → (∀ y ∈ ys, p y = false) → (xs ++ ys).takeWhile p = xs
  | [], ys, _, h => by
    cases ys with
    | nil => rfl
    | cons y r => show (y :: r).takeWhile p = []; rw [List.takeWhile_cons, h y (.head _)]; rfl
  | x :: xs, ys, h, h' => by
    show (x :: (xs ++ ys)).takeWhile p = _
    rw [List.takeWhile_cons, h x (.head _), take_all (fun z hz => h z (.tail _ hz)) h']; rfl
theorem strip_row {xs ws : List Int} (hx : ∀ k ∈ xs, Solid k) (hw : ∀ k ∈ ws, k = 32 ∨ k = 10 ∨ k = 9 ∨ k = 13) : Txt.rstrip (strOf (xs ++ ws)) = strOf xs := by
  show Txt.stripBy Unicode.isSpace false true _ = _
  rw [PyProof.Rows.stripBy_eq]
  show strSub (strOf (xs ++ ws)) 0 (PySem.stripHi Unicode.isSpace true (strOf (xs ++ ws)) 0) = _
  have e : PySem.stripHi Unicode.isSpace true (strOf (xs ++ ws)) 0 = xs.length := by
    show (strOf (xs ++ ws)).length - (((strOf (xs ++ ws)).cps.toList.drop 0).reverse.takeWhile Unicode.isSpace).length = _
    rw [strOf_length, show (strOf (xs ++ ws)).cps.toList.drop 0 = xs.map (·.toNat) ++ ws.map (·.toNat) from by simp [strOf], List.reverse_append, take_all]
    · simp
    · intro n hn
      obtain ⟨k, hk, rfl⟩ := List.mem_map.mp (List.mem_reverse.mp hn)
      exact blank_uspace (hw k hk)
    · intro n hn
      obtain ⟨k, hk, rfl⟩ := List.mem_map.mp (List.mem_reverse.mp hn)
      exact solid_no_uspace (hx k hk)
  rw [e]
  show (⟨(strOf (xs ++ ws)).cps.extract 0 xs.length⟩ : PySem.Str) = _
  have : (strOf (xs ++ ws)).cps.extract 0 xs.length = (strOf xs).cps := by simp [strOf]
  rw [this]
theorem join_row (ks : List Int) : Txt.join (PySem.Str.ofString "") (ks.map fun k => (⟨#[k.toNat]⟩ : PySem.Str)) = strOf ks := by
  show glued _ _ = _
  rw [StrLaws.glued_eq_join]
  cases ks with
  | nil => rfl
  | cons k r =>
    rw [List.map_cons, ← StrLaws.glued_cons]
    have h : ∀ (l : List Int) (a : List Nat), (l.map fun k => (⟨#[k.toNat]⟩ : PySem.Str)).foldl (fun acc p => acc ++ (PySem.Str.ofString "").cps ++ p.cps) a.toArray = (a ++ l.map (·.toNat)).toArray := by
      intro l
      induction l with
      | nil => intro a; simp
      | cons y r ih =>
        intro a
        simp only [List.map_cons, List.foldl_cons]
        rw [show a.toArray ++ (PySem.Str.ofString "").cps ++ #[y.toNat] = (a ++ [y.toNat]).toArray from by
          rw [show (PySem.Str.ofString "").cps = #[] from by decide +kernel]; simp, ih]
        simp
    have := h r [k.toNat]
    rw [show (⟨#[k.toNat]⟩ : PySem.Str).cps = [k.toNat].toArray from rfl, this]
    rfl
section
variable {prog : Program} {w : World} {A : Around} {E : Value → Shared → Prop} {s : Shared} {t u : Tok} {Q : Value → Shared → Prop} {D : Addr} {ys : List Value}
theorem joinRow {ks : List Int} (hl : s.heap.IsList D ys.toArray) (hc : CarriedAll ys (ks.map fun k => PyData.str (⟨#[k.toNat]⟩ : PySem.Str))) (hn : ks.length ≤ 1048576)
    (h : ∀ t' k, Q (.str (strOf ks) t') { s with toks := k }) : wpAny (model prog w) A (call (.builtin "str.join") [.str (PySem.Str.ofString "") t, .ref D]) Q E s :=
  KT.join_1 (g := fun k : Int => (⟨#[k.toNat]⟩ : PySem.Str)) hl hc (fun _ _ => rfl) hn fun t' k _ => by rw [join_row]; exact h t' k
theorem rstripRow {xs ws : List Int} {ks : List Int} (hk : ks = xs ++ ws) (hx : ∀ k ∈ xs, Solid k) (hw : ∀ k ∈ ws, k = 32 ∨ k = 10 ∨ k = 9 ∨ k = 13) (hsz : ks.length ≤ sizeLine)
    (h : ∀ t' k, Q (.str (strOf xs) t') { s with toks := k }) : wpAny (model prog w) A (call (.builtin "str.rstrip") [.str (strOf ks) t]) Q E s := by
  subst hk
  exact SC.rstrip (fun t' k => by rw [strip_row hx hw]; exact h t' k) (by rw [strOf_length]; exact hsz)
end
end Mine
end
section
open PySem PySem.W PyProof.Rows PySem.Calls
namespace Mine
open PySem.Builtin PySem.Builtin.Str PySem.Builtin._codecs
theorem blanks_in {ks : List Int} (h : Blanks ks) : ∀ k ∈ ks, 0 ≤ k ∧ k < 256 := fun k hk => by
  rcases h.2 k hk with rfl | rfl | rfl | rfl <;> omega
theorem arg_ascii (u : Tok) : codecArg "str.encode" "encode" "'encoding'" (some (Value.str (Str.ofString "ascii") u)) = pure (some (Str.ofString "ascii")) := by
  have e1 : (Str.ofString "ascii").cps.any (fun c => decide (c ≥ 128)) = false := by decide +kernel
  have e2 : (Str.ofString "ascii").cps.contains 0 = false := by decide +kernel
  unfold codecArg
  dsimp only
  rw [show strArg "str.encode" "encode" "'encoding'" (Value.str (Str.ofString "ascii") u) = pure (Str.ofString "ascii") from rfl, pure_bind, e1, e2]
  rfl
theorem meets_encode (x : PySem.Str) (t u : Tok) (r : Array UInt8) (hr : r.size ≤ sizeLine) (h : encodeNarrow "str.encode" asciiCodec none (.str x t) x = pure r) :
    Meets («str.encode» ⟨[.str x t, .str (Str.ofString "ascii") u], []⟩) (fun _ R s => R (.ok (.ret (.bytes r s.toks))) { s with toks := s.toks + 1 }) :=
  .of_wp fun prog w A R s hR => by
    obtain ⟨hp, g, d, tk, os⟩ := s
    unfold «str.encode»
    refine wpAny_bind (wpAny_of_eq (a := (Value.str x t, x, [Value.str (Str.ofString "ascii") u])) rfl ?_)
    refine wpAny_bind (wpAny_of_eq (a := [some (Value.str (Str.ofString "ascii") u), none]) rfl ?_)
    refine wpAny_bind (wpAny_of_eq (a := some (Str.ofString "ascii")) (arg_ascii u) ?_)
    refine wpAny_bind (wpAny_of_eq (a := none) rfl ?_)
    refine wpAny_bind ?_
    show wpAny _ _ (encodeRoad "str.encode" (.str x t) x (Str.ofString "ascii") none) _ _ _
    rw [road_ascii, h]
    refine wpAny_bind (wpAny_pure (wpAny_mkBytes (wpAny_pure ⟨_, rfl, hR⟩) hr))
section
variable {prog : Program} {w : World} {A : Around} {E : Value → Shared → Prop} {s : Shared} {t u : Tok} {Q : Value → Shared → Prop}
theorem encodeRow {ks : List Int} (h1 : ∀ k ∈ ks, 0 ≤ k ∧ k < 128) (hsz : ks.length ≤ sizeLine)
    (h : ∀ t' k, Q (.bytes (byteArr ks) t') { heap := s.heap, gens := s.gens, drawn := s.drawn, toks := k, os := s.os }) : wpAny (model prog w) A (call (.builtin "str.encode") [.str (strOf ks) t, .str (Str.ofString "ascii") u]) Q E s :=
  call_meets F.slot_str_encode (typeIs_str _ _ _) F.entry_str_encode (F.args_str_encode_2 _ _) (meets_encode _ _ _ _ (by rw [byteArr_size]; exact hsz) (narrow_ascii _ _ _ h1 hsz)) (h _ _)
theorem method_encode {x : PySem.Str} {M : Model} {pl : Sem Bool} {Q : Value × List Value → Shared → Prop} (h : Q (.builtin "str.encode", [.str x t]) s) : wpAny M A (getMethod (.str x t) "encode" pl) Q E s := by
  with_reducible exact GM.of (.str x t) (typeIs_str _ _ _) F.slot_str_encode F.type_str_encode GM.noRef h
end
end Mine
end
section
open PySem PySem.W PyProof.Rows PySem.Calls
local macro_rules | `(tactic| walk_at "binaryOp Mod int int") => `(tactic| (k_here; k_dflt (refine' Mine.modFresh ?k1 ?_; (case k1 => first | decide | omega)); intro r' t' k' hr' hhi'; (first | (fail_if_success (goal_has ite); skip) | clear hr'); (try dsimp only)))
local macro_rules | `(tactic| walk_at "eval Call Name") => `(tactic| (k_here; goal_lacks Mine.Cut; (with_reducible show wpAny _ _ (eval (Expr.Call (Expr.Name (Str.ofString "_law_draw") _) _ _ _) _) _ _ _); (rename Fr _ _ _ _ => cF'); (rename News _ _ _ _ => cN'); k_dflt (refine' Mine.cut Mine.IsInt cF' cN' ?_ ?_); rotate_left; (intro v' h' k' hv' F' N'; obtain ⟨i', t', hi'⟩ := hv'; subst hi'; (try k_sweep); (try dsimp only)); rotate_left; k_dflt (refine Call_ ?_); k_fold; walk_say "CUT draw"))
local macro_rules | `(tactic| walk_at "Cut") => `(tactic| (k_dflt (refine' Mine.cut_end ?k1 ?k2 ?k3 ?k4 ?k5; (case k1 => first | exact Mine.isTrue_ | exact Mine.isZero _ | exact Mine.isInt _ _); (case k2 => exact rfl); (case k3 => k_asm); (case k4 => k_asm); (case k5 => kcj_all))))
local macro_rules | `(tactic| walk_at "binaryOp Mult ref int") => `(tactic| (k_here; k_dflt (refine' Mine.zeros ?k1 ?k2 ?k3 ?_; (case k1 => k_asm); (case k2 => k_asm); (case k3 => omega)); intro D' h' F' N'; (try k_sweep); (try dsimp only)))
local macro_rules | `(tactic| walk_at "call type:bytes cons nil") => `(tactic| (k_here; k_dflt (refine' Mine.makeBytes ?k1 ?k2 ?k3 ?k4 ?k5 ?k6 ?_; (case k1 => k_asm); (case k2 => k_asm); (case k3 => rfl); (case k4 => first | exact Mine.ints_rep _ _ _ | l_ints); (case k5 => first | (intro x hx; rw [List.eq_of_mem_replicate hx]; decide) | (intro x hx; rw [List.mem_singleton.mp hx]; omega)); (case k6 => (simp only [List.length_replicate, List.length_cons, List.length_nil]; omega))); intro h' t' k' F' N'; (try k_sweep); (try dsimp only)))
local macro_rules | `(tactic| walk_at "binaryOp Mult bytes int") => `(tactic| (k_here; k_dflt (first | ((with_reducible show wpAny _ _ (binaryOp _ (Value.bytes (byteArr []) _) _) _ _ _); refine' Mine.mulEmpty ?k1 ?_; (case k1 => omega)) | ((with_reducible show wpAny _ _ (binaryOp _ (Value.bytes (byteArr [_]) _) _) _ _ _); refine' Mine.mulBytes ?k1 ?_; (case k1 => omega))); intro t' k'; (try dsimp only)))
local macro_rules | `(tactic| walk_at "subscriptTail Name BinOp ref int") => `(tactic| (k_here; k_dflt (refine' Mine.menu ?F ?X ?l ?i ?_; (case F => k_asm); (case X => k_asm); (case l => k_is); (case i => k_asm)); intro ks' t' hBl'; (try dsimp only)))
local macro_rules | `(tactic| walk_at "subscriptTail Name Slice") => `(tactic| (k_here; (with_reducible rename Fr _ _ _ _ => F'); (with_reducible rename News _ _ _ _ => N'); k_dflt (refine' Mine.slice (s := ⟨_, _, _, _, _⟩) F' N' ?k1 ?k2 ?k3 ?k4 ?_; (case k1 => constructor); (case k2 => constructor); (case k3 => (simp only [List.length_replicate, List.length_cons, List.length_nil]; omega)); (case k4 => first | exact Mine.e_head _ | exact Mine.e_nil | exact Mine.e_to _ (by omega) | exact Mine.e_from _ (by omega))); intro h' t' k' F' N'; (try k_sweep); (try dsimp only)))
local macro_rules | `(tactic| walk_at "compareOp NotEq bytes bytes") => `(tactic| (k_here; k_dflt (refine' Mine.neSame ?k1 ?_; (case k1 => first | rfl | (simp; done)))))
local macro_rules | `(tactic| walk_at "eval Constant bytes") => `(tactic| (k_here; k_dflt (first | refine' Mine.const (ks := []) rfl ?_ | refine' Mine.const (ks := [0]) rfl ?_ | refine' Mine.const (ks := [32]) rfl ?_); intro t' k'; (try dsimp only)))
local macro_rules | `(tactic| walk_at "call builtin:len cons nil") => `(tactic| (k_here; k_dflt (first | (refine' Mine.len (n := 0) rfl (by decide) ?_) | (refine' Mine.len (n := 1) rfl (by decide) ?_) | (refine' Mine.len List.length_replicate ?k2 ?_; (case k2 => omega)) | (refine' Mine.len (n := _ + 1 + _) ?k1 ?k2 ?_; (case k1 => rw [List.length_append, List.length_append, List.length_replicate, List.length_replicate]; exact rfl); (case k2 => omega)) | (refine' Mine.len (n := _ + 1) ?k1 ?k2 ?_; (case k1 => first | (rw [List.length_cons, List.length_replicate]; done) | (rw [List.length_append, List.length_replicate]; exact rfl)); (case k2 => omega))); intro t' k'; (try dsimp only)))
local macro_rules | `(tactic| walk_at "getMethod bytes") => `(tactic| (k_here; first | with_reducible refine Mine.method_lstrip ?_ | with_reducible refine Mine.method_rstrip ?_))
local macro_rules | `(tactic| walk_at "call builtin:bytes.rstrip") => `(tactic| (k_here; k_dflt (first
  | (refine' Mine.rstrip (ws := _) rfl ?k1 ?k2 ?k3 ?_; (case k2 => exact (by with_reducible assumption : Mine.Blanks _).2); (case k1 => repeat' (first | exact Mine.solid_nil | refine' Mine.solid_rep ?_ | refine' Mine.solid_app ?_ ?_ | refine' Mine.solid_cons ?_ ?_ | (unfold Mine.Solid; omega))); (case k3 => (simp only [List.length_append, List.length_replicate, List.length_cons, List.length_nil]; omega)))
  | (refine' Mine.rstrip (ws := []) (List.append_nil _).symm ?k1 ?k2 ?k3 ?_; (case k2 => exact Mine.no_blank); (case k1 => repeat' (first | exact Mine.solid_nil | refine' Mine.solid_rep ?_ | refine' Mine.solid_app ?_ ?_ | refine' Mine.solid_cons ?_ ?_ | (unfold Mine.Solid; omega))); (case k3 => (simp only [List.length_append, List.length_replicate, List.length_cons, List.length_nil]; omega)))); intro t' k'; (try dsimp only)))
local macro_rules | `(tactic| walk_at "call builtin:bytes.lstrip") => `(tactic| (k_here; k_dflt (first
  | (refine' Mine.lstrip (ps := []) rfl Mine.none_drop Mine.left_nil ?k3 ?_; (case k3 => exact Nat.zero_le _))
  | (refine' Mine.lstrip (ls := []) (List.append_nil _).symm Mine.all_drop Mine.left_nil ?k3 ?_; (case k3 => exact Nat.zero_le _))
  | (refine' Mine.lstrip (ps := []) (List.nil_append _).symm Mine.none_drop Mine.left_any ?k3 ?_; (case k3 => (simp only [List.length_append, List.length_replicate, List.length_cons, List.length_nil]; omega)))
  | (refine' Mine.lstrip (Mine.mid_split _ _ _ _) Mine.all_drop ?k2 ?k3 ?_; (case k2 => refine' Mine.left_cons ?_ ?_ ?_ <;> (first | omega | (unfold Mine.Solid; omega))); (case k3 => (simp only [List.length_append, List.length_replicate, List.length_cons, List.length_nil]; omega)))); intro t' k'; (try dsimp only)))
local macro_rules | `(tactic| walk_at "eval Call Name") => `(tactic| (k_here; goal_lacks Mine.CutB; (with_reducible (first
  | show wpAny _ (Around.deeper callerA _) (eval (Expr.Call (Expr.Name (Str.ofString "b58encode_int") _) _ _ _) _) _ _ _
  | show wpAny _ (Around.deeper callerA _) (eval (Expr.Call (Expr.Name (Str.ofString "b58encode") _) _ _ _) _) _ _ _
  | show wpAny _ (Around.deeper callerA _) (eval (Expr.Call (Expr.Name (Str.ofString "b58decode") _) _ _ _) _) _ _ _)); (rename Fr _ _ _ _ => cF'); (rename News _ _ _ _ => cN'); k_dflt (refine' Mine.cutB _ cF' cN' ?_ ?_); rotate_left; k_fold; k_dflt (refine Call_ ?_); k_fold; walk_say "CUT bytes"))
local macro_rules | `(tactic| walk_at "CutLater") => `(tactic| (unfold Mine.CutLater; intro t' h' k' F' N'; (try k_sweep); (try dsimp only)))
local macro_rules | `(tactic| walk_at "CutB") => `(tactic| (k_dflt (refine' Mine.cutB_end ?k1 ?k2 ?k3 ?k4 ?k5 ?k6; (case k2 => exact rfl); (case k1 => exact rfl); (case k3 => exact rfl); (case k4 => k_asm); (case k5 => k_asm); (case k6 => kcj_all))))
local macro_rules | `(tactic| walk_at "callWith ref") => `(tactic| (k_here; (with_reducible show wpAny _ _ (callWith _ (Value.ref _) _ (backTo _ (starEach (_ :: _) _)) (backToKw _ (keywordEach (_ :: _) _))) _ _ _); kfb_any; k_dflt (refine' Mine.callWith_KW ?k1 ?k2 ?k3 ?_; (case k1 => k_asm); (case k2 => k_mem); (case k3 => exact rfl))))
local macro_rules | `(tactic| walk_at "call ref") => `(tactic| (k_here; (with_reducible show wpAny _ _ (call (Value.ref _) [Value.bytes _ _] _) _ _ _); kfb_any; k_dflt (refine' Mine.fromEmpty ?k1 ?_; (case k1 => exact KFB.at_of (by k_asm) (by k_mem))); intro t' k'; (try dsimp only)))
local macro_rules | `(tactic| walk_at "binaryOp Sub int int") => `(tactic| (k_here; (with_reducible refine Mine.subZero ?_); intro t' k'; (try dsimp only)))
local macro_rules | `(tactic| walk_at "binaryOp Add bytes bytes") => `(tactic| (k_here; k_dflt (first
  | (refine' Mine.addBytes (List.append_nil _) ?k1 ?k2 ?_; (case k1 => (simp only [List.length_append, List.length_replicate, List.length_cons, List.length_nil]; omega)); (case k2 => exact Nat.zero_le _))
  | (refine' Mine.addBytes (List.nil_append _) ?k1 ?k2 ?_; (case k1 => exact Nat.zero_le _); (case k2 => (simp only [List.length_append, List.length_replicate, List.length_cons, List.length_nil]; omega)))
  | (refine' Mine.addBytes rfl ?k1 ?k2 ?_; (case k1 => (simp only [List.length_append, List.length_replicate, List.length_cons, List.length_nil]; omega)); (case k2 => first | exact Nat.le_trans (by with_reducible assumption : Mine.Blanks _).1 (by decide) | (simp only [List.length_append, List.length_replicate, List.length_cons, List.length_nil]; omega)))); intro t' k'; (try dsimp only)))
local macro_rules | `(tactic| walk_at "call builtin:isinstance") => `(tactic| (k_here; (first | with_reducible refine Mine.isi_bytes_str ?_ | with_reducible refine Mine.isi_bytes_bytes ?_ | with_reducible refine Mine.isi_str_str ?_ | with_reducible refine Mine.isi_int_bool ?_); intro k'; (try dsimp only)))
local macro_rules | `(tactic| walk_at "compareOp NotIn bytes bytes") => `(tactic| (k_here; k_dflt (refine' Mine.notIn ?k1 ?k2 ?k3 ?k4 ?_; (case k1 => k_asm); (case k2 => k_asm); (case k3 => rfl); (case k4 => first | exact Mine.find_none | (refine Mine.find_one ?_; unfold Mine.Solid; omega))); intro h' k' F' N'; (try k_sweep); (try dsimp only)))
local macro_rules | `(tactic| walk_at "eval DictComp") => `(tactic| (k_here; k_dflt (refine' Mine.dictComp ?hh ?hF ?hN ?hb ?hc ?hl ?hk ?hn ?hi ?hx ?hic ?hdi ?hdc ?_ ?hs; (case hh => rfl); (case hF => k_asm); (case hN => k_asm); (case hb => exact TopRead.nolimit (by k_asm)); (case hc => with_unfolding_all rfl); (case hl => decide); (case hk => rfl); (case hn => decide); (case hi => rfl); (case hx => rfl); (case hic => decide); (case hdi => decide); (case hdc => decide); (case hs => intro _; with_unfolding_all rfl))))
local macro_rules | `(tactic| walk_at "call type:enumerate cons nil") => `(tactic| (k_here; k_dflt (refine' Mine.enumNew ?k1 ?k2 ?_; (case k1 => k_asm); (case k2 => k_asm)); intro h' it' F' N' hlow'; (try k_sweep); (try dsimp only)))
local macro_rules | `(tactic| walk_at "EnumAt") => `(tactic| (k_dflt (refine' Mine.enumAt_end ?k1 ?k2 ?k3 ?k4 ?_; (case k1 => k_asm); (case k2 => k_asm); (case k3 => k_asm); (case k4 => first | exact Mine.no_sign | exact Mine.one_sign (by omega) (by omega))); intro D' o' h' k' F' N' l1 hT'; (try k_lt l1); (try k_sweep); (try dsimp only)))
local macro_rules | `(tactic| walk_at "call type:bytes cons nil") => `(tactic| (k_here; k_dflt (refine' Mine.bytesRev ?k1 ?k2 ?k3 ?k4 ?k5 ?_; (case k1 => k_asm); (case k2 => k_asm); (case k3 => rfl); (case k4 => first | rfl | (simp; done)); (case k5 => k_all)); intro h' t' k' F' N'; (try k_sweep); (try dsimp only)))
local macro_rules | `(tactic| walk_at "subscriptTail Name Name ref int") => `(tactic| (k_here; k_dflt (refine' Mine.mapHit ?k1 ?k2 ?k3 ?_; (case k1 => k_asm); (case k2 => k_mem); (case k3 => k_asm)); intro t' k'; (try dsimp only); walk_say "HIT"))
local macro_rules | `(tactic| walk_at "subscriptTail Name Name ref int") => `(tactic| (k_here; k_dflt (refine' Mine.mapMiss ?k0 ?k1 ?k2 ?k3 ?k4 ?k5 ?_; (case k0 => k_asm); (case k1 => k_asm); (case k2 => k_mem); (case k3 => k_asm); (case k4 => rfl); (case k5 => first | exact Mine.not_in_nil | (refine Mine.not_in_one ?_; omega))); intro h' e' k' hx' zF' zN'; clear zF' zN'; (try dsimp only); walk_say "MISS"))
local macro_rules | `(tactic| walk_at "binaryOp Mult int int") => `(tactic| (k_here; (with_reducible refine Mine.zeroMul (by decide) ?_); intro t' k'; (try dsimp only)))
local macro_rules | `(tactic| walk_at "binaryOp Add int int") => `(tactic| (k_here; with_reducible refine Mine.zeroAdd ?_; intro t' k'; (try dsimp only)))
local macro_rules | `(tactic| walk_at "pyIter bytes") => `(tactic| (k_here; (with_reducible show wpAny _ _ (pyIter (Value.bytes (byteArr _) _)) (fun it s₂ => LoopAtV _ _ _ _ _ _ _ _ _ it s₂) _ _); (rename Fr _ _ _ _ => lF'); (rename News _ _ _ _ => lN'); k_dflt (first
  | ((with_reducible show wpAny _ _ (pyIter (Value.bytes (byteArr (List.replicate _ _)) _)) (fun it s₂ => LoopAtV _ _ _ _ _ _ _ _ _ it s₂) _ _); refine' Mine.loopSame (y := Str.ofString "decimal") ?hc ?hh lF' lN' ?hy (fun t' t0' h' tk' own' hoff' F' N' => ?_) (fun u' t' h' tk' F' N' => ?_); (case hc => constructor <;> omega); (case hh => rfl); (case hy => with_unfolding_all rfl))
  | ((with_reducible show wpAny _ _ (pyIter (Value.bytes (byteArr (List.replicate _ _ ++ [_] ++ List.replicate _ _)) _)) (fun it s₂ => LoopAtV _ _ _ _ _ _ _ _ _ it s₂) _ _); refine' Mine.loopMid (y := Str.ofString "decimal") ?hc ?hd ?hh lF' lN' ?hy (fun t' t0' h' tk' own' hoff' F' N' => ?_) (fun t' t0' h' tk' own' hoff' F' N' => ?_); (case hc => constructor <;> omega); (case hd => constructor <;> omega); (case hh => rfl); (case hy => with_unfolding_all rfl))
  | (refine' Mine.loopNone (y := Str.ofString "decimal") ?hD ?hne ?hr ?hh lF' lN' ?hy (fun k' hlo' hhi' t' t0' h' tk' own' hoff' F' N' => ?_); (case hD => k_asm); (case hne => simp); (case hr => repeat' (first | exact Mine.in_range_nil | refine' Mine.rep_in ?_ | refine' Mine.in_range_cons ?_ ?_ | refine' Mine.in_range_app ?_ ?_ | (constructor <;> omega))); (case hh => rfl); (case hy => with_unfolding_all rfl))
  | ((with_reducible show wpAny _ _ (pyIter (Value.bytes (byteArr (_ :: _)) _)) (fun it s₂ => LoopAtV _ _ _ _ _ _ _ _ _ it s₂) _ _); refine' Mine.loopFirst (y := Str.ofString "decimal") ?hc ?hr ?hh lF' lN' ?hy (fun t' t0' h' tk' own' hoff' F' N' => ?_); (case hc => constructor <;> omega); (case hr => repeat' (first | exact Mine.in_range_nil | refine' Mine.rep_in ?_ | refine' Mine.in_range_cons ?_ ?_ | refine' Mine.in_range_app ?_ ?_ | (constructor <;> omega))); (case hh => rfl); (case hy => with_unfolding_all rfl))); (all_goals (try simp only [List.nil_append, List.cons_append, List.append_nil] at N')); (all_goals (try dsimp only)); (all_goals (try k_fold)); walk_say "LOOP"))
local macro_rules | `(tactic| walk_at "eval Call Name") => `(tactic| (k_here; goal_lacks Mine.Cut; (with_reducible (first
  | show wpAny _ (Around.deeper callerA _) (eval (Expr.Call (Expr.Name (Str.ofString "b58decode_int") _) _ _ _) _) _ _ _)); (rename Fr _ _ _ _ => cF'); (rename News _ _ _ _ => cN'); k_dflt (refine' Mine.cut Mine.IsZero cF' cN' ?_ ?_); rotate_left; (intro v' h' k' hv' F' N'; obtain ⟨t', hi'⟩ := hv'; subst hi'; (try k_sweep); (try dsimp only)); rotate_left; k_fold; k_dflt (refine Call_ ?_); k_fold; walk_say "CUT number"))
local macro_rules | `(tactic| walk_at "eval Call Name") => `(tactic| (k_here; goal_lacks Mine.Cut; (with_reducible (first
  | show wpAny _ (Around.deeper callerA _) (eval (Expr.Call (Expr.Name (Str.ofString "_law_both_refuse") _) _ _ _) _) _ _ _)); (rename Fr _ _ _ _ => cF'); (rename News _ _ _ _ => cN'); k_dflt (refine' Mine.cut Mine.IsTrue cF' cN' ?_ ?_); rotate_left; (intro v' h' k' hv' F' N'; have hv9 : v' = Value.bool true := hv'; subst hv9; (try k_sweep); (try dsimp only)); rotate_left; k_fold; k_dflt (refine Call_ ?_); k_fold; walk_say "CUT refuse"))
local macro_rules | `(tactic| walk_at "call ref") => `(tactic| (k_here; (with_reducible rename KtsDicts _ _ => kdX'); (with_reducible rename Frag.In _ _ => kiX'); (fail_if_success k_inElt); k_dflt (refine wpAny_call ?_; kp_kind "kwonly"; refine' code_defS ?k1 ?k2 ?k3 ?k4 ?k5 ?XB ?TB ?D ?T0 ?kA ?k6 ?k7 ?k8 ?k9 ?kB ?_ ?cK ?c2 ?c3 ?c4 ?c5; (case kA => exact rfl); (case k2 => k_asm); (case k1 => k_asm); (case XB => with_reducible assumption); (case TB => with_reducible assumption); (case D => with_reducible assumption); (case T0 => first | with_reducible assumption | exact KtsTurn.refl); (case k3 => k_asm); (case k4 => k_asm); (case k5 => k_asm); (case k6 => k_is); (case k7 => k_is); (case k8 => k_room); (case k9 => (refine' kp_binds ?kx ?ke; (case kx => first | exact kiX' | exact Frag.In.keeps kiX' (Fr.keep (by with_reducible assumption)) | k_in); (case ke => exact fun _ => rfl))); (case kB => exact locs rfl); (case cK => exact rfl); (case c2 => exact rfl); (case c3 => exact rfl); (case c4 => exact rfl); (case c5 => decide); k_whole; intro g' L' h' FG' F' N' B' X' T' D'; (try dsimp only); (try k_lift B'); (try k_fold)); walk_say "ENTER kwonly S"))
local macro_rules | `(tactic| walk_at "noteFrame ref") => `(tactic| (k_here; (with_reducible rename Heap.NewExc _ _ _ _ => chX'); k_dflt (refine' Mine.key_to_value ?K ?x ?F ?N ?XB ?TB ?exK ?exV ?_ ?hk ?hlo ?hxK ?hxV; (case x => exact chX'); (case K => k_asm); (case F => k_asm); (case N => k_asm); (case XB => with_reducible assumption); (case TB => with_reducible assumption); (case exK => k_is); (case exV => k_is); (case hk => rfl); (case hlo => rfl); (case hxK => rfl); (case hxV => rfl); k_whole; intro e' h' tk' hG'; clear chX'); (try dsimp only at hG' ⊢); walk_say "KEY TO VALUE"))
local macro_rules | `(tactic| walk_at "leaving ref") => `(tactic| (k_here; (with_reducible rename Mine.HeldG _ _ _ _ _ _ _ _ _ => hG'); k_dflt (refine' Mine.leave_held hG' ?_; k_whole; intro h' S' R' U'; clear hG'); (try dsimp only at S' R' U' ⊢); walk_say "LEAVE HELD"))
local macro_rules | `(tactic| walk_at "eval Call Name") => `(tactic| (k_here; (with_reducible show wpAny _ _ (eval (Expr.Call (Expr.Name (Str.ofString "_law_number_refused") _) _ _ _) _) _ _ _); (with_reducible rename News _ _ _ _ => zN'); (have zM' := Mine.no_news zN'); clear zN'; k_dflt (refine Call_ ?_); k_fold; walk_say "NO NEWS"))
local macro_rules | `(tactic| walk_at "eval ListComp") => `(tactic| (k_here; (with_reducible show wpAny _ _ (eval (Expr.ListComp (Expr.Call (Expr.Name (Str.ofString "chr") _) _ _ _) _ _ _) _) _ _ _); k_dflt (refine Mine.ListComp_B (_F₀ := by k_asm) (by with_unfolding_all rfl) (by decide) (by rfl) (by decide) (by rfl) ?_); walk_say "LISTB"))
local macro_rules | `(tactic| walk_at "SrcB") => `(tactic| (k_dflt (refine' Mine.srcB_end ?k1 ?k2 ?k3 ?k4 ?_; (case k1 => rfl); (case k2 => k_asm); (case k3 => k_asm); (case k4 => ((have hbl9 := (by with_reducible assumption : Mine.Blanks _).1); (simp only [List.length_append, List.length_replicate, List.length_cons, List.length_nil]); (try rw [PySem.sizeLine_eq]); omega)); intro g'; (refine' Mine.text_bytes ?hr _ (fun k' t' I' oI' C' oC' D' m' ys' h' tk' E' hlo' hhi' hC' hx' F' N' off' ne' => ?_) ?_); (case hr => repeat' (first | exact Mine.in_range_nil | refine' Mine.rep_in ?_ | exact Mine.blanks_in (by with_reducible assumption) | refine' Mine.in_range_cons ?_ ?_ | refine' Mine.in_range_app ?_ ?_ | (constructor <;> omega))); (all_goals (try (simp only [LCg.Off3, and_true] at off'))); (all_goals (try ((show KPfMark → _); intro hMark'))); kcf_last); walk_say "SRCB"))
local macro_rules | `(tactic| walk_at "call builtin:str.join") => `(tactic| (k_here; (with_reducible show wpAny _ _ (call (Value.builtin "str.join") [Value.str _ _, Value.ref _]) _ _ _); (with_reducible rename CarriedAll _ (List.map _ _) => ktC); k_dflt (refine' Mine.joinRow ?k1 ktC ?k3 ?_; (case k1 => first | with_reducible assumption | exact News.isList (by k_asm) (by k_mem)); (case k3 => ((have hbl9 := (by with_reducible assumption : Mine.Blanks _).1); (simp only [List.length_append, List.length_replicate, List.length_cons, List.length_nil]); (try rw [PySem.sizeLine_eq]); omega))); intro t' k'; (try dsimp only); walk_say "JOINROW"))
local macro_rules | `(tactic| walk_at "call builtin:str.rstrip") => `(tactic| (k_here; k_dflt (refine' Mine.rstripRow (ws := _) rfl ?k1 ?k2 ?k3 ?_; (case k2 => exact (by with_reducible assumption : Mine.Blanks _).2); (case k1 => repeat' (first | exact Mine.solid_nil | refine' Mine.solid_rep ?_ | refine' Mine.solid_app ?_ ?_ | refine' Mine.solid_cons ?_ ?_ | (unfold Mine.Solid; omega))); (case k3 => ((have hbl9 := (by with_reducible assumption : Mine.Blanks _).1); (simp only [List.length_append, List.length_replicate, List.length_cons, List.length_nil]); (try rw [PySem.sizeLine_eq]); omega))); intro t' k'; (try dsimp only); walk_say "RSTRIPROW"))
local macro_rules | `(tactic| walk_at "call builtin:str.encode") => `(tactic| (k_here; k_dflt (refine' Mine.encodeRow ?k1 ?k2 ?_; (case k1 => (intro x hx; rw [List.eq_of_mem_replicate hx]; omega)); (case k2 => ((simp only [List.length_append, List.length_replicate, List.length_cons, List.length_nil]); (try rw [PySem.sizeLine_eq]); omega))); intro t' k'; (try dsimp only); walk_say "ENCODEROW"))
local macro_rules | `(tactic| walk_at "getMethod str") => `(tactic| (k_here; (with_reducible refine Mine.method_encode ?_)))
local macro_rules | `(tactic| walk_at "call ref") => `(tactic| (k_here; (fail_if_success k_inElt); kts_any; k_dflt (refine wpAny_call ?_; first | (refine' code_defS0 ?k1 ?k2 ?k3 ?k4 ?k5 ?kA ?k6 ?k7 ?k8 ?k9 ?kB ?_ ?cK ?c2 ?c3 ?c4 ?c5; (case kA => exact rfl); (case k2 => k_asm); (case k1 => k_asm); (case k3 => k_asm); (case k4 => k_asm); (case k5 => k_asm); (case k6 => k_is); (case k7 => k_is); (case k8 => k_room); (case k9 => exact BindsTo.of_eq rfl); (case kB => exact locs rfl); (case cK => exact rfl); (case c2 => exact rfl); (case c3 => exact rfl); (case c4 => exact rfl); (case c5 => decide); k_whole; intro g' L' h' FG' F' N' B' X' T' D'; (try dsimp only); (try k_lift B'); (try k_fold)) | (refine' code_defS ?k1 ?k2 ?k3 ?k4 ?k5 ?XB ?TB ?D ?T0 ?kA ?k6 ?k7 ?k8 ?k9 ?kB ?_ ?cK ?c2 ?c3 ?c4 ?c5; (case kA => exact rfl); (case k2 => k_asm); (case k1 => k_asm); (case XB => with_reducible assumption); (case TB => with_reducible assumption); (case D => with_reducible assumption); (case T0 => first | with_reducible assumption | exact KtsTurn.refl); (case k3 => k_asm); (case k4 => k_asm); (case k5 => k_asm); (case k6 => k_is); (case k7 => k_is); (case k8 => k_room); (case k9 => exact BindsTo.of_eq rfl); (case kB => exact locs rfl); (case cK => exact rfl); (case c2 => exact rfl); (case c3 => exact rfl); (case c4 => exact rfl); (case c5 => decide); k_whole; intro g' L' h' FG' F' N' B' X' T' D'; (try dsimp only); (try k_lift B'); (try k_fold))); walk_say "ENTER S"))
local macro_rules | `(tactic| k_in) => `(tactic| ((with_reducible rename Frag.In _ _ => kiX'); first | exact kiX' | exact Frag.In.keeps kiX' (Fr.keep (by with_reducible assumption))))
set_option maxHeartbeats 40000000 in
theorem PySem.Challenge.cw_ej5003_01_holds : PySem.Challenge.rw_ej5003_01.Holds := by
  open_k
end
