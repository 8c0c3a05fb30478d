import PyProof.Rows.All
import Wide.All
import OpenK.AllK
import Wide.FinOn
import PySem.Challenge.RW_wr0006_01
set_option Elab.async false

namespace Mine
open PySem PySem.W PyProof.Rows
set_option maxRecDepth 100000 in
set_option maxHeartbeats 8000000 in
open_top hd for PySem.Challenge.rw_wr0006_01
end Mine

namespace Mine
open PySem PySem.W PyProof.Rows
def MClaim (w : World) (f : Addr) (d : Nat) (pre : Prop) (vs : List Value) (R : Tok → Value) : Prop :=
  ∀ (mean : ExcName → Option Value) (mg mb : Str → Option Value) (news : List (Addr × Obj)) (dp un : Nat) (gd : Option (List Code)) (cn : Str) (cs : Scope) (a : Addr) (ccd : Value) (cl : List (Str × Addr)) (outer : List Env) (A₀ : Around) (base h₀ : Heap) (L : Addr) (m : Str → Option Value) (s : Shared) (Q E : Value → Shared → Prop),
    Below A₀ base outer h₀ → Fr h₀ L s.heap m → (hd.heap_39 w.params).In h₀ → News h₀ L s.heap news → Top hd.view_39 (looseW hd.view_39 []) mean mg mb h₀ → cs.kind = .function →
    pre → dp + d < recursionLimit → un + 8 * d < cLine → CbRet h₀ L m news s Q R →
      wpAny (model PySem.Challenge.rw_wr0006_01.row.prog w) (ktrTop dp un gd cn cs L a ccd cl outer) (call (.ref f) vs) Q E s
theorem MClaim.use {w : World} {f : Addr} {d : Nat} {pre : Prop} {vs : List Value} {R : Tok → Value} (C : MClaim w f d pre vs R)
    {mean : ExcName → Option Value} {mg mb : Str → Option Value} {news : List (Addr × Obj)} {dp un : Nat} {gd : Option (List Code)} {cn : Str} {cs : Scope} {a : Addr} {ccd : Value} {cl : List (Str × Addr)} {outer : List Env} {A₀ : Around} {base h₀ : Heap} {L : Addr} {m : Str → Option Value} {s : Shared} {Q E : Value → Shared → Prop}
    (B : Below A₀ base outer h₀) (F : Fr h₀ L s.heap m) (X : (hd.heap_39 w.params).In h₀) (N : News h₀ L s.heap news) (T : Top hd.view_39 (looseW hd.view_39 []) mean mg mb h₀) (hk : cs.kind = .function)
    (hp : pre) (h1 : dp + d < recursionLimit) (h2 : un + 8 * d < cLine) (hr : CbRet h₀ L m news s Q R) :
    wpAny (model PySem.Challenge.rw_wr0006_01.row.prog w) (ktrTop dp un gd cn cs L a ccd cl outer) (call (.ref f) vs) Q E s :=
  C _ _ _ _ _ _ _ _ _ _ _ _ _ _ _ _ _ _ _ _ _ B F X N T hk hp h1 h2 hr
end Mine

namespace Mine
open PySem PySem.W PyProof.Rows
open PySem.Builtin PySem.Builtin.Str in
def find4 (x y : Str) (i j : Int) : Int := match occurrences x y (fromIndex x.length i) (min (fromIndex x.length j) x.length) 1 with | k :: _ => (k : Int) | [] => -1
open PySem.Builtin PySem.Builtin.Str in
def rfind4 (x y : Str) (i j : Int) : Int := match lastOccurrence x y (fromIndex x.length i) (min (fromIndex x.length j) x.length) with | some k => (k : Int) | none => -1
section
open PySem.Builtin PySem.Builtin.Str
variable {prog : Program} {w : World} {A : Around} {E : Value → Shared → Prop} {s : Shared} {x y : Str} {t u v v2 : Tok} {i j : Int} {Q : Value → Shared → Prop}
theorem gives_find4 (x y : Str) (i j : Int) (t u v v2 : Tok) : Gives («str.find» ⟨[.str x t, .str y u, .int i v, .int j v2], []⟩) (.int (find4 x y i j)) := by
  show Gives (match occurrences x y (fromIndex x.length i) (min (fromIndex x.length j) x.length) 1 with | k :: _ => retInt k | [] => (do rule "str.find.not-found"; retInt (-1))) _
  unfold find4
  cases occurrences x y (fromIndex x.length i) (min (fromIndex x.length j) x.length) 1 with
  | nil => exact .rule (.of_eq rfl)
  | cons k _ => exact .of_eq rfl
theorem gives_rfind4 (x y : Str) (i j : Int) (t u v v2 : Tok) : Gives («str.rfind» ⟨[.str x t, .str y u, .int i v, .int j v2], []⟩) (.int (rfind4 x y i j)) := by
  show Gives (match lastOccurrence x y (fromIndex x.length i) (min (fromIndex x.length j) x.length) with | some k => retInt k | none => (do rule "str.rfind.not-found"; retInt (-1))) _
  unfold rfind4
  cases lastOccurrence x y (fromIndex x.length i) (min (fromIndex x.length j) x.length) with
  | none => exact .rule (.of_eq rfl)
  | some k => exact .of_eq rfl
theorem call_find4 (hq : Q (.int (find4 x y i j) s.toks) { s with toks := s.toks + 1 }) : wpAny (model prog w) A (call (.builtin "str.find") [.str x t, .str y u, .int i v, .int j v2]) Q E s :=
  call_gives F.slot_str_find (typeIs_str _ _ _) F.entry_str_find (F.args_str_find_4 _ _ _ _) (gives_find4 x y i j t u v v2) hq
theorem call_rfind4 (hq : Q (.int (rfind4 x y i j) s.toks) { s with toks := s.toks + 1 }) : wpAny (model prog w) A (call (.builtin "str.rfind") [.str x t, .str y u, .int i v, .int j v2]) Q E s :=
  call_gives F.slot_str_rfind (typeIs_str _ _ _) F.entry_str_rfind (F.args_str_rfind_4 _ _ _ _) (gives_rfind4 x y i j t u v v2) hq
end
local macro_rules | `(tactic| walk_at "call builtin:str.find") => `(tactic| refine call_find4 ?_)
local macro_rules | `(tactic| walk_at "call builtin:str.rfind") => `(tactic| refine call_rfind4 ?_)

def ends1 (x : Str) : Int := if 0 ≤ Txt.find x (Str.ofString "\n") then Txt.find x (Str.ofString "\n") else x.length
def ends2 (x : Str) : Int := if 0 ≤ find4 x (Str.ofString ":") 0 (ends1 x) then find4 x (Str.ofString ":") 0 (ends1 x) else ends1 x
def start3 (x : Str) : Int := if 0 ≤ rfind4 x (Str.ofString ".") 0 (ends2 x) then rfind4 x (Str.ofString ".") 0 (ends2 x) + 1 else 0
def strip (x : Str) : Str := Txt.slice x (some (start3 x)) (some (ends2 x))
theorem ends1_of {x : Str} {r : Int} (h : 0 ≤ Txt.find x (Str.ofString "\n") ∧ r = Txt.find x (Str.ofString "\n") ∨ ¬ 0 ≤ Txt.find x (Str.ofString "\n") ∧ r = x.length) : r = ends1 x := by
  unfold ends1
  rcases h with ⟨h1, h2⟩ | ⟨h1, h2⟩
  · rw [if_pos h1]; exact h2
  · rw [if_neg h1]; exact h2
theorem strip_pp {x : Str} {r : Int} (h : r = ends1 x) (h2 : 0 ≤ find4 x (Str.ofString ":") 0 r) (h3 : 0 ≤ rfind4 x (Str.ofString ".") 0 (find4 x (Str.ofString ":") 0 r)) :
    Txt.slice x (some (rfind4 x (Str.ofString ".") 0 (find4 x (Str.ofString ":") 0 r) + 1)) (some (find4 x (Str.ofString ":") 0 r)) = strip x := by
  subst h
  unfold strip start3 ends2
  rw [if_pos h2, if_pos h3]
theorem strip_pn {x : Str} {r : Int} (h : r = ends1 x) (h2 : 0 ≤ find4 x (Str.ofString ":") 0 r) (h3 : ¬ 0 ≤ rfind4 x (Str.ofString ".") 0 (find4 x (Str.ofString ":") 0 r)) :
    Txt.slice x (some 0) (some (find4 x (Str.ofString ":") 0 r)) = strip x := by
  subst h
  unfold strip start3 ends2
  rw [if_pos h2, if_neg h3]
theorem strip_np {x : Str} {r : Int} (h : r = ends1 x) (h2 : ¬ 0 ≤ find4 x (Str.ofString ":") 0 r) (h3 : 0 ≤ rfind4 x (Str.ofString ".") 0 r) :
    Txt.slice x (some (rfind4 x (Str.ofString ".") 0 r + 1)) (some r) = strip x := by
  subst h
  unfold strip start3 ends2
  rw [if_neg h2, if_pos h3]
theorem strip_nn {x : Str} {r : Int} (h : r = ends1 x) (h2 : ¬ 0 ≤ find4 x (Str.ofString ":") 0 r) (h3 : ¬ 0 ≤ rfind4 x (Str.ofString ".") 0 r) :
    Txt.slice x (some 0) (some r) = strip x := by
  subst h
  unfold strip start3 ends2
  rw [if_neg h2, if_neg h3]
set_option maxRecDepth 100000 in
set_option maxHeartbeats 8000000 in
theorem ctr_strip (w : World) (msg : Str) (t : Tok) : MClaim w 21 1 (msg.length ≤ 1000) [.str msg t] (fun t => .str (strip msg) t) := by
  unfold MClaim
  k_with_none
  w_top off
  k_fill
  dsimp only [CbRet]; intros; rename_i hret
  refine wpAny_call ?_
  k_dflt cell_enter
  k_steps
  all_goals (
    refine' cb_retS hret ?e1 ?e2 ?e3
    (case e2 => k_asm)
    (case e3 => first | k_asm | (refine' cb_drop ?cbN ?cbS; (case cbN => assumption); (case cbS => kcj_all)))
    (case e1 => with_reducible first
      | with_reducible exact strip_pp (ends1_of (by with_reducible assumption)) (by with_reducible assumption) (by with_reducible assumption)
      | with_reducible exact strip_pn (ends1_of (by with_reducible assumption)) (by with_reducible assumption) (by with_reducible assumption)
      | with_reducible exact strip_np (ends1_of (by with_reducible assumption)) (by with_reducible assumption) (by with_reducible assumption)
      | with_reducible exact strip_nn (ends1_of (by with_reducible assumption)) (by with_reducible assumption) (by with_reducible assumption)))
end Mine

namespace Mine
open PySem PySem.W PyProof.Rows
def w0 (e : Int) : Str := if e < 0 then Str.ofString "-" else Str.ofString ""
def dg (n k : Nat) : Str := Txt.item (Str.ofString "ABCDEFGHIJKLMNOP") (((n : Int).fdiv (16 ^ k)).fmod 16)
def wstep (e : Int) (acc : Str) (k : Int) : Str := if (16 : Int) ^ k.toNat ≤ (e.natAbs : Int) then acc ++ dg e.natAbs k.toNat else acc
def wrtL (e : Int) (l : List Int) : Str := l.foldl (wstep e) (w0 e)
def writ (e : Int) : Str := wrtL e (downKs 3 4)
theorem wrtL_nil (e : Int) : wrtL e [] = w0 e := rfl
theorem w0_len (e : Int) : (w0 e).length ≤ 1 := by
  unfold w0
  have h1 : (Str.ofString "-").length = 1 := by decide +kernel
  have h2 : (Str.ofString "").length = 0 := by decide +kernel
  split <;> omega
theorem wrt_start_n {e : Int} (h : e < 0) : Str.ofString "-" = wrtL e [] ∧ (Str.ofString "-").length ≤ 1 + ([] : List Int).length := by
  have e1 : w0 e = Str.ofString "-" := by unfold w0; rw [if_pos h]
  refine ⟨by rw [wrtL_nil, e1], ?_⟩
  have := w0_len e
  rw [e1] at this
  simpa using this
theorem wrt_start_p {e : Int} (h : ¬ e < 0) : Str.ofString "" = wrtL e [] ∧ (Str.ofString "").length ≤ 1 + ([] : List Int).length := by
  have e1 : w0 e = Str.ofString "" := by unfold w0; rw [if_neg h]
  refine ⟨by rw [wrtL_nil, e1], ?_⟩
  have := w0_len e
  rw [e1] at this
  simpa using this
theorem wrt_yes {e : Int} {pre : List Int} {k : Int} {word : Str} (h : word = wrtL e pre) (hl : word.length ≤ 1 + pre.length) (hc : (e.natAbs : Int) ≥ 16 ^ k.toNat) :
    word ++ Txt.item (Str.ofString "ABCDEFGHIJKLMNOP") (((e.natAbs : Int).fdiv (16 ^ k.toNat)).fmod 16) = wrtL e (pre ++ [k]) ∧ (word ++ Txt.item (Str.ofString "ABCDEFGHIJKLMNOP") (((e.natAbs : Int).fdiv (16 ^ k.toNat)).fmod 16)).length ≤ 1 + (pre ++ [k]).length := by
  constructor
  · unfold wrtL at h ⊢
    rw [List.foldl_append, List.foldl_cons, List.foldl_nil, ← h]
    unfold wstep
    rw [if_pos hc]
    rfl
  · rw [Str.length_append, List.length_append]
    have : (Txt.item (Str.ofString "ABCDEFGHIJKLMNOP") (((e.natAbs : Int).fdiv (16 ^ k.toNat)).fmod 16)).length = 1 := rfl
    simp only [List.length_cons, List.length_nil]
    omega
theorem wrt_no {e : Int} {pre : List Int} {k : Int} {word : Str} (h : word = wrtL e pre) (hl : word.length ≤ 1 + pre.length) (hc : ¬ (e.natAbs : Int) ≥ 16 ^ k.toNat) :
    word = wrtL e (pre ++ [k]) ∧ word.length ≤ 1 + (pre ++ [k]).length := by
  constructor
  · unfold wrtL at h ⊢
    rw [List.foldl_append, List.foldl_cons, List.foldl_nil, ← h]
    unfold wstep
    rw [if_neg hc]
  · rw [List.length_append]
    omega
theorem call_absN {prog : Program} {w : World} {A : Around} {E : Value → Shared → Prop} {s : Shared} {a : Int} {t : Tok} {Q : Value → Shared → Prop} (h : ∀ u tk, Q (.int (a.natAbs : Int) u) { s with toks := tk }) :
    wpAny (model prog w) A (call (.builtin "abs") [.int a t]) Q E s := by
  refine call_abs_int fun u tk => ?_
  have e : (if a < 0 then -a else a) = (a.natAbs : Int) := by split <;> omega
  rw [e]
  exact h u tk
section
variable {prog : Program} {w : World} {A : Around} {E : Value → Shared → Prop} {s : Shared} {t u : Tok} {Q : Value → Shared → Prop}
theorem pow16 {k : Int} (h0 : 0 ≤ k) (h1 : k ≤ 3) (h : Q (.int (16 ^ k.toNat) s.toks) { s with toks := s.toks + 1 }) : wpAny (model prog w) A (binaryOp .Pow (.int 16 t) (.int k u)) Q E s := pow_int_small h0 (by omega) (by decide) h
theorem fdiv16 {n k : Nat} (hk : k ≤ 3) (h : Q (.int ((n : Int).fdiv (16 ^ k)) s.toks) { s with toks := s.toks + 1 }) : wpAny (model prog w) A (binaryOp .FloorDiv (.int (n : Int) t) (.int (16 ^ k) u)) Q E s :=
  floordiv_int (Int.pow_ne_zero (by decide)) h (Or.inl (PyProof.noPylong_small (by
    have h1 : k = 0 ∨ k = 1 ∨ k = 2 ∨ k = 3 := by omega
    rcases h1 with h | h | h | h <;> subst h <;> decide)))
end
local macro_rules | `(tactic| walk_at "binaryOp FloorDiv int int") => `(tactic| (k_here; (with_reducible refine fdiv16 (by omega) ?_)))
local macro_rules | `(tactic| walk_at "binaryOp Pow int int") => `(tactic| (k_here; (with_reducible refine pow16 (by omega) (by omega) ?_)))
local macro_rules | `(tactic| walk_at "call builtin:abs") => `(tactic| (with_reducible (refine call_absN ?_; intro _ _)))
set_option maxRecDepth 100000 in
set_option maxHeartbeats 8000000 in
theorem ctr_written (w : World) (e : Int) (t : Tok) : MClaim w 68 1 True [.int e t] (fun t => .str (writ e) t) := by
  unfold MClaim
  k_with_none
  w_top off
  k_fill
  dsimp only [CbRet]; intros; rename_i hret
  refine wpAny_call ?_
  k_dflt cell_enter
  k_with "pyIter ref" => k_state (fun pre word => word = wrtL e pre ∧ word.length ≤ 1 + pre.length) "word"
  k_with "state" => first
    | with_reducible exact wrt_start_n (by with_reducible assumption)
    | with_reducible exact wrt_start_p (by with_reducible assumption)
    | with_reducible exact wrt_yes (by with_reducible assumption) (by with_reducible assumption) (by with_reducible assumption)
    | with_reducible exact wrt_no (by with_reducible assumption) (by with_reducible assumption) (by with_reducible assumption)
  k_steps
  all_goals (
    refine' cb_retS hret ?e1 ?e2 ?e3
    (case e2 => k_asm)
    (case e3 => first | k_asm | (refine' cb_drop ?cbN ?cbS; (case cbN => assumption); (case cbS => kcj_all)))
    (case e1 => (with_unfolding_all assumption)))
end Mine

namespace Mine
open PySem PySem.W PyProof.Rows
def expoF (x : Str) : Int := (List.foldl (fun (σ : Int × Unit) (k : Str) => if (k != Str.ofString "-") = true then (16 * σ.fst + Txt.find (Str.ofString "ABCDEFGHIJKLMNOP") k, ()) else (σ.fst, ())) (0, ()) (signs (Txt.slice x (some 1) none))).fst
def expo (x : Str) : Int := if (Txt.slice x (some 1) (some 2) == Str.ofString "-") = true then - expoF x else expoF x
theorem expo_t {x : Str} (h : (Txt.slice x (some 1) (some 2) == Str.ofString "-") = true) : - expoF x = expo x := by unfold expo; rw [if_pos h]
theorem expo_f {x : Str} (h : (Txt.slice x (some 1) (some 2) == Str.ofString "-") = false) : expoF x = expo x := by unfold expo; rw [if_neg (by rw [h]; decide)]
local macro_rules | `(tactic| walk_at "subscriptTail Name Slice str ref") => `(tactic| ((with_reducible show wpAny _ _ (subscriptTail _ (Expr.Slice (some _) (some _) none _) _ _) _ _ _); (with_reducible rename Fr _ _ _ _ => F'); (refine slice_strN_ss_len (hsz := ?hsz) (s := ⟨_, _, _, _, _⟩) F' (by with_reducible assumption) ?_); (case hsz => size_fits); intro _ _ _ _ _ _))
set_option maxRecDepth 100000 in
set_option maxHeartbeats 8000000 in
theorem ctr_expo (w : World) (x : Str) (t : Tok) : MClaim w 54 1 (x.length ≤ 1000) [.str x t] (fun t => .int (expo x) t) := by
  unfold MClaim
  k_with_none
  w_top off
  k_fill
  dsimp only [CbRet]; intros; rename_i hret
  refine wpAny_call ?_
  k_dflt cell_enter
  k_steps
  all_goals (
    refine' cb_retI hret ?e1 ?e2 ?e3
    (case e2 => k_asm)
    (case e3 => first | k_asm | (refine' cb_drop ?cbN ?cbS; (case cbN => assumption); (case cbS => kcj_all)))
    (case e1 => first
      | (with_reducible rename ((_ == _) = true) => hx; with_unfolding_all exact expo_t hx)
      | (with_reducible rename ((_ == _) = false) => hx; with_unfolding_all exact expo_f hx)))
end Mine

namespace Mine
open PySem PySem.W PyProof.Rows
section
open PySem.Builtin
abbrev DSt := Nat × Array Nat × _codecs.Faults
def decBody (b : Array UInt8) (_ : Nat) (st : DSt) : Sem (ForInStep DSt) :=
  if st.2.1.size > sizeLine then do
    unsupported "str:memory"
    if st.1 ≥ b.size then pure (ForInStep.done (st.1, st.2.1, st.2.2))
      else pure (ForInStep.yield (st.1 + 1, st.2.1 ++ #[(b.getD st.1 0).toNat], st.2.2))
  else
    if st.1 ≥ b.size then pure (ForInStep.done (st.1, st.2.1, st.2.2))
    else pure (ForInStep.yield (st.1 + 1, st.2.1 ++ #[(b.getD st.1 0).toNat], st.2.2))
theorem dec_loop (b : Array UInt8) (hsz : b.size ≤ sizeLine) (f : _codecs.Faults) : ∀ (l : List Nat) (p : Nat), p + l.length = b.size →
    forIn (m := Sem) l ((p, ((b.toList.take p).map UInt8.toNat).toArray, f) : DSt) (decBody b) = pure (b.size, (b.toList.map UInt8.toNat).toArray, f)
  | [], p, hp => by
    have e : p = b.size := by simpa using hp
    subst e
    rw [List.forIn_nil, show b.toList.take b.size = b.toList from List.take_of_length_le (by simp)]
  | a :: l, p, hp => by
    have hlt : p < b.size := by simp only [List.length_cons] at hp; omega
    have hs : ¬ (((b.toList.take p).map UInt8.toNat).toArray).size > sizeLine := by simp; omega
    rw [List.forIn_cons]
    have e : decBody b a ((p, ((b.toList.take p).map UInt8.toNat).toArray, f) : DSt) = pure (ForInStep.yield (p + 1, ((b.toList.take (p + 1)).map UInt8.toNat).toArray, f)) := by
      unfold decBody
      rw [if_neg hs, if_neg (by show ¬ p ≥ b.size; omega)]
      have e2 : ((b.toList.take p).map UInt8.toNat).toArray ++ #[(b.getD p 0).toNat] = ((b.toList.take (p + 1)).map UInt8.toNat).toArray := by
        rw [List.take_add_one]
        simp [hlt]
      show pure (ForInStep.yield (p + 1, ((b.toList.take p).map UInt8.toNat).toArray ++ #[(b.getD p 0).toNat], f)) = _
      rw [e2]
    rw [e]
    show forIn (m := Sem) l ((p + 1, ((b.toList.take (p + 1)).map UInt8.toNat).toArray, f) : DSt) (decBody b) = _
    exact dec_loop b hsz f l (p + 1) (by simp only [List.length_cons] at hp; omega)
theorem run_ascii (id : String) (b : Array UInt8) (hsz : b.size ≤ sizeLine) (h : ∀ i, (b.getD i 0).toNat < 128) : _codecs.runDecoder id _codecs.asciiDecoder none true b 0 [] = pure ((b.toList.map UInt8.toNat).toArray, b.size) := by
  have key := dec_loop b hsz ({ held := [] } : _codecs.Faults) (List.range' 0 b.size) 0 (by simp)
  unfold _codecs.runDecoder
  simp only [_codecs.asciiDecoder, h, if_true, _codecs.Found.char]
  have e : (forIn [:b.size] ((0, #[], { }) : DSt) (decBody b) : Sem DSt) = pure (b.size, (b.toList.map UInt8.toNat).toArray, { held := [] }) := by
    simpa using key
  show ((forIn [:b.size] ((0, #[], { }) : DSt) (decBody b) : Sem DSt) >>= fun r => pure (r.2.1, r.1)) = _
  rw [e]
  rfl
variable {b : Array UInt8} {c : UInt8} {cs : List UInt8} {t u : Tok} {x : PySem.Str} {n : Nat}
theorem road_ascii {id : String} : _codecs.decodeRoad id b (PySem.Str.ofString "ascii") none [] = (_codecs.runDecoder id _codecs.asciiDecoder none true b 0 [] >>= fun r => mkStr ⟨r.1⟩) := by kernel_rfl
theorem meets_textA {t1 t2 : Tok} {d : PySem.Str} (hd : ∀ id, _codecs.runDecoder id _codecs.asciiDecoder none true b 0 [] = pure (x.cps, n)) :
    Meets («_codecs.decode.text» ⟨[.bytes b t, .str (PySem.Str.ofString "ascii") t1, .none, .str d t2], []⟩) (fun _ R s => x.length ≤ sizeLine ∧ R (.ok (.ret (.str x s.toks))) { s with toks := s.toks + 1 }) := by
  refine .of_wp fun prog w A R s hS => ?_
  obtain ⟨hsz, h⟩ := hS
  show wpAny _ _ (Bytes.bytesLike _ (.bytes b t) >>= fun r => _) _ _ s
  refine wpAny_bind (wpAny_of_eq KBd.like_eq ?_)
  refine wpAny_bind (wpAny_of_eq KBd.held_eq ?_)
  show wpAny _ _ (_codecs.decodeRoad _ b (PySem.Str.ofString "ascii") none [] >>= fun v => _) _ _ s
  rw [road_ascii, hd]
  refine wpAny_bind (wpAny_bind (wpAny_pure ?_))
  exact wpAny_mkStr (wpAny_pure ⟨_, rfl, h⟩) hsz
theorem entryA : «bytes.decode» ⟨[.bytes (c :: cs).toArray t, .str (PySem.Str.ofString "ascii") u], []⟩ = (mkStr (PySem.Str.ofString "utf-8") >>= fun _ => mkStr (PySem.Str.ofString "ascii") >>= fun e => mkStr (PySem.Str.ofString "bytes.decode") >>= fun d =>
    call (.builtin "_codecs.decode.text") [.bytes (c :: cs).toArray t, e, .none, d] >>= fun v => ret v) := by kernel_rfl
theorem meets_decodeA (hd : ∀ id, _codecs.runDecoder id _codecs.asciiDecoder none true (c :: cs).toArray 0 [] = pure (x.cps, n)) :
    Meets («bytes.decode» ⟨[.bytes (c :: cs).toArray t, .str (PySem.Str.ofString "ascii") u], []⟩) (fun _ R s => x.length ≤ sizeLine ∧ ∀ t' k, R (.ok (.ret (.str x t'))) { s with toks := k }) := by
  refine .of_wp fun prog w A R s hS => ?_
  obtain ⟨hsz, h⟩ := hS
  rw [entryA]
  refine wpAny_bind (wpAny_mkStr ?_ (by decide))
  refine wpAny_bind (wpAny_mkStr ?_ (by decide))
  refine wpAny_bind (wpAny_mkStr ?_ (by decide))
  exact wpAny_bind (call_function_meets KBd.kind_text KBd.plain_text KBd.entry_text (KBd.args_text _ _ _ _) (meets_textA hd) ⟨hsz, wpAny_pure ⟨_, rfl, h _ _⟩⟩)
theorem argsA (a b : Value) : argsOk "bytes.decode" ⟨[a, b], []⟩ := by
  unfold argsOk; rw [signature?_of (id := "bytes.decode") (n := ['e', 'd', 'o', 'c', 'e', 'd']) (o := ['s', 'e', 't', 'y', 'b']) (by kernel_rfl) FB.owner_bytes]; kernel_rfl
def strOfB (b : Array UInt8) : Str := ⟨(b.toList.map UInt8.toNat).toArray⟩
theorem call_decodeA {prog : Program} {w : World} {A : Around} {E : Value → Shared → Prop} {s : Shared} {b : Array UInt8} {Q : Value → Shared → Prop} (hne : b.size ≠ 0) (hsz : b.size ≤ sizeLine) (ha : ∀ i, (b.getD i 0).toNat < 128) (h : ∀ t' k, Q (.str (strOfB b) t') { s with toks := k }) :
    wpAny (model prog w) A (call (.builtin "bytes.decode") [.bytes b t, .str (PySem.Str.ofString "ascii") u]) Q E s := by
  obtain ⟨l⟩ := b
  cases l with
  | nil => exact absurd rfl hne
  | cons c cs =>
    refine call_meets FB.slot_bytes_decode (typeIs_bytes _ _ _) FB.entry_bytes_decode (argsA _ _) (meets_decodeA (x := strOfB (c :: cs).toArray) (fun id => run_ascii id _ hsz ha)) ⟨?_, h⟩
    simpa [strOfB, Str.length] using hsz
end
end Mine

namespace Mine
open PySem PySem.W PyProof.Rows
def letB (n : Nat) : UInt8 := UInt8.ofNat (65 + n)
def hexB (n : Nat) : Array UInt8 := if h : n = 0 then #[] else hexB (n / 16) ++ #[letB (n % 16)]
termination_by n
decreasing_by omega
theorem hexB_zero : hexB 0 = #[] := by rw [hexB]; simp
theorem hexB_pos {n : Nat} (h : n ≠ 0) : hexB n = hexB (n / 16) ++ #[letB (n % 16)] := by rw [hexB]; simp [h]
theorem hexB_size : ∀ (k n : Nat), n < 16 ^ k → (hexB n).size ≤ k
  | 0, n, h => by
    have : n = 0 := by simpa using h
    subst this
    simp [hexB_zero]
  | k + 1, n, h => by
    by_cases h0 : n = 0
    · subst h0; simp [hexB_zero]
    · rw [hexB_pos h0]
      have := hexB_size k (n / 16) (by rw [Nat.pow_succ] at h; omega)
      simp
      omega
theorem picked_all : ∀ k : Fin 16, KBy.picked #[65, 66, 67, 68, 69, 70, 71, 72, 73, 74, 75, 76, 77, 78, 79, 80] (some ((k.val : Nat) : Int)) (some (((k.val : Nat) : Int) + 1)) = #[letB k.val] := by decide +kernel
theorem picked_one {m : Int} (h0 : 0 ≤ m) (h1 : m < 16) : KBy.picked #[65, 66, 67, 68, 69, 70, 71, 72, 73, 74, 75, 76, 77, 78, 79, 80] (some m) (some (m + 1)) = #[letB m.toNat] := by
  have h := picked_all ⟨m.toNat, by omega⟩
  have e : ((m.toNat : Nat) : Int) = m := by omega
  simpa only [e] using h
theorem ap_start {e : Int} (he : e.natAbs < 65536) : 0 ≤ (if e < 0 then -e else e) ∧ (if e < 0 then -e else e) < 65536 ∧ (#[] : Array UInt8).size ≤ 16 ∧ hexB (if e < 0 then -e else e).toNat ++ #[] = hexB (if e < 0 then -e else e).toNat := by
  refine ⟨?_, ?_, by simp, by simp⟩ <;> split <;> omega
theorem ap_step {n : Int} {v : Array UInt8} {e : Int} (he : e.natAbs < 65536) (h0 : 0 ≤ n) (h1 : n < 65536) (h : hexB n.toNat ++ v = hexB (if e < 0 then -e else e).toNat) (hn : n ≠ 0) :
    0 ≤ n.fdiv 16 ∧ n.fdiv 16 < 65536 ∧ (KBy.picked #[65, 66, 67, 68, 69, 70, 71, 72, 73, 74, 75, 76, 77, 78, 79, 80] (some (n.fmod 16)) (some (n.fmod 16 + 1)) ++ v).size ≤ 16 ∧
      hexB (n.fdiv 16).toNat ++ (KBy.picked #[65, 66, 67, 68, 69, 70, 71, 72, 73, 74, 75, 76, 77, 78, 79, 80] (some (n.fmod 16)) (some (n.fmod 16 + 1)) ++ v) = hexB (if e < 0 then -e else e).toNat := by
  have d1 : n.fdiv 16 = n / 16 := Int.fdiv_eq_ediv_of_nonneg n (by decide)
  have d2 : n.fmod 16 = n % 16 := Int.fmod_eq_emod_of_nonneg n (by decide)
  rw [d1, d2, picked_one (by omega) (by omega)]
  have e1 : (n / 16).toNat = n.toNat / 16 := by omega
  have e2 : (n % 16).toNat = n.toNat % 16 := by omega
  have hh : hexB (n / 16).toNat ++ (#[letB (n % 16).toNat] ++ v) = hexB (if e < 0 then -e else e).toNat := by
    rw [← h, hexB_pos (n := n.toNat) (by omega), e1, e2, Array.append_assoc]
  refine ⟨by omega, by omega, ?_, hh⟩
  have hs := hexB_size 4 (if e < 0 then -e else e).toNat (by split <;> omega)
  rw [← hh] at hs
  simp at hs ⊢
  omega
theorem ap_less {n : Int} (h0 : 0 ≤ n) (hn : n ≠ 0) : (n.fdiv 16).toNat < n.toNat := by
  have d1 : n.fdiv 16 = n / 16 := Int.fdiv_eq_ediv_of_nonneg n (by decide)
  rw [d1]; omega
theorem ap_end {n : Int} {v : Array UInt8} {e : Int} (h : hexB n.toNat ++ v = hexB (if e < 0 then -e else e).toNat) (hn : n = 0) : v = hexB e.natAbs := by
  subst hn
  have e1 : (if e < 0 then -e else e).toNat = e.natAbs := by split <;> omega
  rw [e1] at h
  simpa [hexB_zero] using h
theorem cb_retY {h₀ h' : Heap} {L : Addr} {m : Str → Option Value} {news : List (Addr × Obj)} {s : Shared} {Q : Value → Shared → Prop} {t : Tok} {tk' : Nat} {x y : Array UInt8}
    (hret : ∀ (t : Tok) (h' : Heap) (tk' : Nat), Fr h₀ L h' m → News h₀ L h' news → Q (.bytes x t) { s with heap := h', toks := tk' }) (e : y = x) (F : Fr h₀ L h' m) (N : News h₀ L h' news) : Q (.bytes y t) { s with heap := h', toks := tk' } := by
  subst e
  exact hret t h' tk' F N
local macro_rules | `(tactic| walk_at "subscriptTail") => `(tactic| (k_here; (with_reducible show wpAny _ _ (subscriptTail _ (Expr.Slice _ _ none _) (Value.bytes _ _) (Value.ref _)) _ _ _); (with_reducible rename Fr _ _ _ _ => F'); (with_reducible rename News _ _ _ _ => N'); (refine KBc.slice_K (s := ⟨_, _, _, _, _⟩) F' N' rfl (by constructor) (by constructor) (by rw [KBw.ints_length]; decide) ?_); intro _ _ _ _ _ _))
theorem ap_size {lo hi : Option Int} {v : Array UInt8} (h : v.size ≤ 16) : (KBy.picked #[65, 66, 67, 68, 69, 70, 71, 72, 73, 74, 75, 76, 77, 78, 79, 80] lo hi).size + v.size ≤ 16777216 := by
  have h2 := KBc.size_picked_le #[65, 66, 67, 68, 69, 70, 71, 72, 73, 74, 75, 76, 77, 78, 79, 80] lo hi
  have h3 : (#[65, 66, 67, 68, 69, 70, 71, 72, 73, 74, 75, 76, 77, 78, 79, 80] : Array UInt8).size = 16 := rfl
  omega
local macro_rules | `(tactic| walk_at "binaryOp Add bytes bytes") => `(tactic| (k_here; (with_reducible show wpAny _ _ (binaryOp Operator.Add (Value.bytes _ _) (Value.bytes _ _)) _ _ _); (refine KBy.add_bytes (ap_size (by assumption)) ?_); intro _ _))
set_option maxRecDepth 100000 in
set_option maxHeartbeats 8000000 in
theorem ctr_ap (w : World) (e : Int) (t : Tok) : MClaim w 28 1 (e.natAbs < 65536) [.int e t] (fun t => .bytes (hexB e.natAbs) t) := by
  unfold MClaim
  k_with_none
  w_top off
  k_fill
  dsimp only [CbRet]; intros; rename_i hret
  refine wpAny_call ?_
  k_dflt cell_enter
  k_with "exec While Name" => k_while_given ["num!"] (fun n₀ script num val => 0 ≤ num ∧ num < 65536 ∧ val.size ≤ 16 ∧ hexB num.toNat ++ val = hexB n₀.toNat) (fun n₀ script num val => num.toNat) "num" "val"
  k_with "state" => (first | with_reducible exact ap_start (by with_reducible assumption) | with_reducible exact ap_step (by with_reducible assumption) (by with_reducible assumption) (by with_reducible assumption) (by with_reducible assumption) (by with_reducible assumption))
  k_with "measure" => with_reducible exact ap_less (by with_reducible assumption) (by with_reducible assumption)
  k_steps
  all_goals (
    refine' cb_retY hret ?e1 ?e2 ?e3
    (case e2 => k_asm)
    (case e3 => first | k_asm | (refine' cb_drop ?cbN ?cbS; (case cbN => assumption); (case cbS => kcj_all)))
    (case e1 => with_reducible exact ap_end (by with_reducible assumption) (by with_reducible assumption)))
end Mine

namespace Mine
open PySem PySem.W PyProof.Rows
theorem hexB_ne {n : Nat} (h : n ≠ 0) : (hexB n).size ≠ 0 := by rw [hexB_pos h]; simp
theorem letB_lt {n : Nat} (h : n < 16) : (letB n).toNat < 128 := by
  unfold letB
  have : (UInt8.ofNat (65 + n)).toNat = 65 + n := by simp [UInt8.toNat_ofNat']; omega
  omega
theorem hexB_lt (n : Nat) : ∀ c ∈ (hexB n).toList, c.toNat < 128 := by
  induction n using Nat.strongRecOn with
  | ind n ih =>
    by_cases h0 : n = 0
    · subst h0; simp [hexB_zero]
    · rw [hexB_pos h0]
      intro c hc
      simp only [Array.toList_append, List.mem_append] at hc
      rcases hc with hc | hc
      · exact ih (n / 16) (by omega) c hc
      · have : c = letB (n % 16) := by simpa using hc
        rw [this]
        exact letB_lt (by omega)
theorem hexB_getD (n i : Nat) : ((hexB n).getD i 0).toNat < 128 := by
  by_cases h : i < (hexB n).size
  · have : (hexB n).getD i 0 = (hexB n).toList[i]'(by simpa using h) := by simp [Array.getD, h]
    rw [this]
    exact hexB_lt n _ (List.getElem_mem _)
  · have : (hexB n).getD i 0 = 0 := by simp [Array.getD, h]
    rw [this]; decide
theorem hexB_fits {n : Nat} (h : n < 65536) : (hexB n).size ≤ sizeLine := by
  have := hexB_size 4 n (by omega)
  rw [PySem.sizeLine_eq]; omega
local macro_rules | `(tactic| size_fits) => `(tactic| ((simp only [Str.length_append]); (rw [PySem.sizeLine_eq]); first | omega | ((try simp only [show (Str.ofString "-").length = 1 from by decide +kernel, show (Str.ofString "").length = 0 from by decide +kernel]); omega)))
theorem strOfB_len (b : Array UInt8) : (strOfB b).length = b.size := by simp [strOfB, Str.length]
theorem strH_len {n : Nat} (h : n < 65536) : (strOfB (hexB n)).length ≤ 4 := by
  rw [strOfB_len]; exact hexB_size 4 n (by omega)
def partS (x : Str) (e : Int) : Str := (if e < 0 then x ++ Str.ofString "-" else x ++ Str.ofString "") ++ strOfB (hexB e.natAbs)
theorem partS_n {x : Str} {e : Int} (h : e < 0) : x ++ Str.ofString "-" ++ strOfB (hexB e.natAbs) = partS x e := by unfold partS; rw [if_pos h]
theorem partS_p {x : Str} {e : Int} (h : ¬ e < 0) : x ++ Str.ofString "" ++ strOfB (hexB e.natAbs) = partS x e := by unfold partS; rw [if_neg h]
local macro_rules | `(tactic| walk_at "none here") => `(tactic| skip)
local macro_rules | `(tactic| walk_at "call ref") => `(tactic| (k_here; (with_reducible show wpAny _ _ (call (Value.ref 28) _) _ _ _); k_dflt (refine' MClaim.use (ctr_ap _ _ _) ?k1 ?k2 ?k3 ?k4 ?k5 ?kK ?kp ?kd ?ku ?_; (case k1 => k_asm); (case k2 => k_asm); (case k3 => k_asm); (case k4 => k_asm); (case k5 => k_asm); (case kK => first | exact rfl | assumption); (case kp => omega); (case kd => ktr_room); (case ku => ktr_units)); intro t9 h9 tk9 F9 N9; (try dsimp only); (try k_fold)))
local macro_rules | `(tactic| walk_at "call builtin:bytes.decode") => `(tactic| (k_here; (with_reducible show wpAny _ _ (call (Value.builtin "bytes.decode") [Value.bytes _ _, Value.str _ _]) _ _ _); (refine call_decodeA (hexB_ne (by omega)) (hexB_fits (by omega)) (hexB_getD _) ?_); intro _ _))
set_option maxRecDepth 100000 in
set_option maxHeartbeats 8000000 in
theorem ctr_part (w : World) (x : Str) (t : Tok) (e : Int) (u : Tok) : MClaim w 47 2 (x.length ≤ 100 ∧ e ≠ 0 ∧ e.natAbs < 65536) [.str x t, .int e u] (fun t => .str (partS x e) t) := by
  unfold MClaim
  k_with_none
  w_top off
  k_fill
  dsimp only [CbRet]; intros; rename_i hret
  (with_reducible rename _ ∧ _ => hpre; obtain ⟨hx1, hx2, hx3⟩ := hpre)
  have hH := strH_len hx3
  refine wpAny_call ?_
  k_dflt cell_enter
  k_steps
  all_goals (
    refine' cb_retS hret ?e1 ?e2 ?e3
    (case e2 => k_asm)
    (case e3 => first | k_asm | (refine' cb_drop ?cbN ?cbS; (case cbN => assumption); (case cbS => kcj_all)))
    (case e1 => first
      | with_reducible exact partS_n (by with_reducible assumption)
      | with_reducible exact partS_p (by with_reducible assumption)
      | with_reducible exact partS_p (by omega)))
end Mine

namespace Mine
abbrev M4 := Int × Int × Int × Int
abbrev Wd := List (Bool × Int)
def mulR (m : Int) (M : M4) (b : Bool) (e : Int) : M4 :=
  if b = true then (M.1 + m * e * M.2.1, M.2.1, M.2.2.1 + m * e * M.2.2.2, M.2.2.2) else (M.1, M.2.1 + m * e * M.1, M.2.2.1, M.2.2.2 + m * e * M.2.2.1)
def mulL (m : Int) (b : Bool) (e : Int) (M : M4) : M4 :=
  if b = true then (M.1, M.2.1, M.2.2.1 + m * e * M.1, M.2.2.2 + m * e * M.2.1) else (M.1 + m * e * M.2.2.1, M.2.1 + m * e * M.2.2.2, M.2.2.1, M.2.2.2)
def matL (m : Int) : Wd → M4
  | [] => (1, 0, 0, 1)
  | x :: l => mulL m x.1 x.2 (matL m l)
theorem mulRL (m : Int) (b c : Bool) (e f : Int) (M : M4) : mulR m (mulL m b e M) c f = mulL m b e (mulR m M c f) := by
  obtain ⟨p, q, r, s⟩ := M
  cases b <;> cases c <;> simp only [mulR, mulL, Bool.false_eq_true, if_true, if_false, Prod.mk.injEq] <;> grind
theorem mulR_add (m : Int) (b : Bool) (e f : Int) (M : M4) : mulR m (mulR m M b f) b e = mulR m M b (e + f) := by
  obtain ⟨p, q, r, s⟩ := M
  cases b <;> simp only [mulR, Bool.false_eq_true, if_true, if_false, Prod.mk.injEq] <;> grind
theorem mulR_zero (m : Int) (b : Bool) (M : M4) : mulR m M b 0 = M := by
  obtain ⟨p, q, r, s⟩ := M
  cases b <;> simp [mulR]
theorem mulR_one (m : Int) (b : Bool) (e : Int) : mulR m (1, 0, 0, 1) b e = mulL m b e (1, 0, 0, 1) := by
  cases b <;> simp [mulR, mulL]
theorem matL_snoc (m : Int) (x : Bool × Int) : ∀ l : Wd, matL m (l ++ [x]) = mulR m (matL m l) x.1 x.2
  | [] => by simp only [List.nil_append, matL]; exact (mulR_one m x.1 x.2).symm
  | y :: l => by
    rw [List.cons_append, matL, matL_snoc m x l, matL, mulRL]
def red1 (r : Wd) (b : Bool) (e : Int) : Wd :=
  match r with
  | [] => if e = 0 then [] else [(b, e)]
  | (c, f) :: t => if c = b then (if e + f = 0 then t else (b, e + f) :: t) else if e = 0 then (c, f) :: t else (b, e) :: (c, f) :: t
theorem matL_red1 (m : Int) (r : Wd) (b : Bool) (e : Int) : matL m (red1 r b e).reverse = mulR m (matL m r.reverse) b e := by
  unfold red1
  split
  · split
    · rename_i h; subst h; simp [mulR_zero]
    · simp only [List.reverse_cons, List.reverse_nil, List.nil_append]
      rw [show ([(b, e)] : Wd) = [] ++ [(b, e)] from rfl, matL_snoc]
  · rename_i c f t
    rw [List.reverse_cons, matL_snoc]
    split
    · rename_i h
      subst h
      rw [mulR_add]
      split
      · rename_i h0; rw [h0, mulR_zero]
      · rw [List.reverse_cons, matL_snoc]
    · split
      · rename_i h0; subst h0; rw [mulR_zero, List.reverse_cons, matL_snoc]
      · rw [List.reverse_cons, matL_snoc, List.reverse_cons, matL_snoc]
/-- no letter twice in a row, no exponent nought -/
def Alt : Wd → Prop
  | [] => True
  | [x] => x.2 ≠ 0
  | x :: y :: l => x.2 ≠ 0 ∧ x.1 ≠ y.1 ∧ Alt (y :: l)
theorem Alt.tail {x : Bool × Int} {l : Wd} (h : Alt (x :: l)) : Alt l := by
  cases l with
  | nil => trivial
  | cons y l => exact h.2.2
theorem Alt.head {x : Bool × Int} {l : Wd} (h : Alt (x :: l)) : x.2 ≠ 0 := by
  cases l with
  | nil => exact h
  | cons y l => exact h.1
theorem Alt.cons {x : Bool × Int} {l : Wd} (h0 : x.2 ≠ 0) (h1 : ∀ y ∈ l.head?, x.1 ≠ y.1) (h : Alt l) : Alt (x :: l) := by
  cases l with
  | nil => exact h0
  | cons y l => exact ⟨h0, h1 y (by simp), h⟩
theorem Alt.ne {x y : Bool × Int} {l : Wd} (h : Alt (x :: y :: l)) : x.1 ≠ y.1 := h.2.1
theorem Alt.red1 {r : Wd} {b : Bool} {e : Int} (h : Alt r) : Alt (red1 r b e) := by
  unfold Mine.red1
  split
  · split
    · trivial
    · assumption
  · rename_i c f t
    split
    · split
      · exact h.tail
      · rename_i hc h0
        refine Alt.cons h0 ?_ h.tail
        intro y hy
        cases t with
        | nil => simp at hy
        | cons z t =>
          have : z = y := by simpa using hy
          subst this
          have := h.ne
          rw [← hc]; exact this
    · split
      · exact h
      · rename_i hc h0
        refine Alt.cons h0 ?_ h
        intro y hy
        have : (c, f) = y := by simpa using hy
        subst this
        exact fun q => hc q.symm
theorem Alt.snoc : ∀ {l : Wd} {x : Bool × Int}, Alt l → x.2 ≠ 0 → (∀ y ∈ l.getLast?, x.1 ≠ y.1) → Alt (l ++ [x])
  | [], x, _, h0, _ => h0
  | [y], x, h, h0, h1 => ⟨h, fun q => h1 y (by simp) q.symm, h0⟩
  | y :: z :: l, x, h, h0, h1 => by
    refine ⟨h.1, h.2.1, ?_⟩
    exact Alt.snoc (l := z :: l) h.2.2 h0 (by simpa [List.getLast?_cons_cons] using h1)
theorem Alt.reverse : ∀ {l : Wd}, Alt l → Alt l.reverse
  | [], _ => trivial
  | x :: l, h => by
    rw [List.reverse_cons]
    refine Alt.snoc h.tail.reverse h.head ?_
    intro y hy
    rw [List.getLast?_reverse] at hy
    cases l with
    | nil => simp at hy
    | cons z l =>
      have : z = y := by simpa using hy
      subst this
      exact h.ne
theorem big_step {c x y : Int} (hc : 2 ≤ c.natAbs) (h : x.natAbs < y.natAbs) : y.natAbs < (x + c * y).natAbs := by
  have h1 : (c * y).natAbs = c.natAbs * y.natAbs := Int.natAbs_mul c y
  have h2 : 2 * y.natAbs ≤ c.natAbs * y.natAbs := Nat.mul_le_mul_right _ hc
  omega
theorem two_le {m e : Int} (hm : 2 ≤ m) (he : e ≠ 0) : 2 ≤ (m * e).natAbs := by
  rw [Int.natAbs_mul]
  have h1 : 1 ≤ e.natAbs := by omega
  have h2 : 2 ≤ m.natAbs := by omega
  have := Nat.mul_le_mul h2 h1
  omega
/-- what the two columns say of the first letter -/
def Col (l : Wd) (M : M4) : Prop :=
  match l with
  | [] => M = (1, 0, 0, 1)
  | x :: _ => if x.1 = true then M.1.natAbs < M.2.2.1.natAbs ∧ M.2.1.natAbs < M.2.2.2.natAbs else M.2.2.1.natAbs < M.1.natAbs ∧ M.2.2.2.natAbs < M.2.1.natAbs
theorem col (m : Int) (hm : 2 ≤ m) : ∀ l : Wd, Alt l → Col l (matL m l)
  | [], _ => rfl
  | (b, e) :: l, h => by
    have ih := col m hm l h.tail
    have hc := two_le hm (show e ≠ 0 from h.head)
    show Col ((b, e) :: l) (mulL m b e (matL m l))
    have key : (matL m l).2.2.1.natAbs ≤ (matL m l).1.natAbs → b = true → ((matL m l).2.2.1.natAbs < (matL m l).1.natAbs ∧ (matL m l).2.2.2.natAbs < (matL m l).2.1.natAbs) ∨ matL m l = (1, 0, 0, 1) := by
      intro h1 hb
      cases l with
      | nil => exact .inr ih
      | cons y l =>
        have hne := h.ne
        have hy : y.1 = false := by
          cases hyb : y.1
          · rfl
          · rw [hyb] at hne; exact absurd hb hne
        simp only [Col, hy, Bool.false_eq_true, if_false] at ih
        exact .inl ih
    generalize hM : matL m l = M at ih key ⊢
    obtain ⟨p, q, r, s⟩ := M
    cases b
    · simp only [Col, mulL, Bool.false_eq_true, if_false]
      have h2 : (p.natAbs < r.natAbs ∧ q.natAbs < s.natAbs) ∨ (p = 1 ∧ q = 0 ∧ r = 0 ∧ s = 1) := by
        cases l with
        | nil =>
          have : (p, q, r, s) = (1, 0, 0, 1) := ih
          simp only [Prod.mk.injEq] at this
          exact .inr this
        | cons y l =>
          have hne := h.ne
          have hy : y.1 = true := by
            cases hyb : y.1
            · rw [hyb] at hne; exact absurd rfl hne
            · rfl
          simp only [Col, hy, if_true] at ih
          exact .inl ih
      rcases h2 with ⟨h3, h4⟩ | ⟨rfl, rfl, rfl, rfl⟩
      · exact ⟨big_step hc h3, big_step hc h4⟩
      · refine ⟨by simp, big_step hc (by decide)⟩
    · simp only [Col, mulL, if_true]
      have h2 : (r.natAbs < p.natAbs ∧ s.natAbs < q.natAbs) ∨ (p = 1 ∧ q = 0 ∧ r = 0 ∧ s = 1) := by
        cases l with
        | nil =>
          have : (p, q, r, s) = (1, 0, 0, 1) := ih
          simp only [Prod.mk.injEq] at this
          exact .inr this
        | cons y l =>
          have hne := h.ne
          have hy : y.1 = false := by
            cases hyb : y.1
            · rfl
            · rw [hyb] at hne; exact absurd rfl hne
          simp only [Col, hy, Bool.false_eq_true, if_false] at ih
          exact .inl ih
      rcases h2 with ⟨h3, h4⟩ | ⟨rfl, rfl, rfl, rfl⟩
      · exact ⟨big_step hc h3, big_step hc h4⟩
      · refine ⟨big_step hc (by decide), by simp⟩
end Mine

namespace Mine
theorem fdiv_nought {a b : Int} (h : (0 ≤ a ∧ a < b) ∨ (b < a ∧ a ≤ 0)) : a.fdiv b = 0 := by
  rcases h with ⟨h1, h2⟩ | ⟨h1, h2⟩
  · rw [Int.fdiv_eq_ediv_of_nonneg a (by omega)]
    exact Int.ediv_eq_zero_of_lt h1 h2
  · have e : a.fdiv b = (-a).fdiv (-b) := (Int.neg_fdiv_neg a b).symm
    rw [e, Int.fdiv_eq_ediv_of_nonneg (-a) (by omega)]
    exact Int.ediv_eq_zero_of_lt (by omega) (by omega)
theorem nearest {m e x y : Int} (hm : 2 ≤ m) (h : x.natAbs < y.natAbs) : (2 * (x + m * e * y) + m * y).fdiv (2 * m * y) = e := by
  have hT : 2 * y.natAbs ≤ (m * y).natAbs := by
    rw [Int.natAbs_mul]
    exact Nat.mul_le_mul_right _ (by omega)
  have e1 : 2 * (x + m * e * y) + m * y = (2 * x + m * y) + e * (2 * (m * y)) := by grind
  have e2 : 2 * m * y = 2 * (m * y) := by grind
  rw [e1, e2]
  generalize m * y = T at hT ⊢
  rw [Int.add_mul_fdiv_right _ _ (by omega), fdiv_nought (by omega)]
  omega
/-- the letter that is taken off, and what is left -/
theorem off_a {m e : Int} {l : Wd} {p q r s : Int} (hm : 2 ≤ m) (h : Alt ((false, e) :: l)) (hM : matL m ((false, e) :: l) = (p, q, r, s)) :
    r.natAbs < p.natAbs ∧ s ≠ 0 ∧ (2 * q + m * s).fdiv (2 * m * s) = e ∧ (p - m * e * r, q - m * e * s, r, s) = matL m l := by
  have hc := col m hm _ h
  rw [hM] at hc
  have hc2 := col m hm _ h.tail
  have hM' : mulL m false e (matL m l) = (p, q, r, s) := hM
  generalize hN : matL m l = N at hM' hc2 ⊢
  obtain ⟨p', q', r', s'⟩ := N
  simp only [mulL, Bool.false_eq_true, if_false, Prod.mk.injEq] at hM'
  obtain ⟨h1, h2, h3, h4⟩ := hM'
  subst h1 h2 h3 h4
  have hq : q'.natAbs < s'.natAbs := by
    cases l with
    | nil =>
      have : (p', q', r', s') = (1, 0, 0, 1) := hc2
      simp only [Prod.mk.injEq] at this
      omega
    | cons y l =>
      have hne := h.ne
      have hy : y.1 = true := by
        cases hyb : y.1
        · rw [hyb] at hne; exact absurd rfl hne
        · rfl
      simp only [Col, hy, if_true] at hc2
      exact hc2.2
  simp only [Col, Bool.false_eq_true, if_false] at hc
  refine ⟨hc.1, by omega, nearest hm hq, ?_⟩
  simp only [Prod.mk.injEq, and_true]
  constructor <;> omega
theorem off_b {m e : Int} {l : Wd} {p q r s : Int} (hm : 2 ≤ m) (h : Alt ((true, e) :: l)) (hM : matL m ((true, e) :: l) = (p, q, r, s)) :
    p.natAbs < r.natAbs ∧ p ≠ 0 ∧ (2 * r + m * p).fdiv (2 * m * p) = e ∧ (p, q, r - m * e * p, s - m * e * q) = matL m l := by
  have hc := col m hm _ h
  rw [hM] at hc
  have hc2 := col m hm _ h.tail
  have hM' : mulL m true e (matL m l) = (p, q, r, s) := hM
  generalize hN : matL m l = N at hM' hc2 ⊢
  obtain ⟨p', q', r', s'⟩ := N
  simp only [mulL, if_true, Prod.mk.injEq] at hM'
  obtain ⟨h1, h2, h3, h4⟩ := hM'
  subst h1 h2 h3 h4
  have hq : r'.natAbs < p'.natAbs := by
    cases l with
    | nil =>
      have : (p', q', r', s') = (1, 0, 0, 1) := hc2
      simp only [Prod.mk.injEq] at this
      omega
    | cons y l =>
      have hne := h.ne
      have hy : y.1 = false := by
        cases hyb : y.1
        · rfl
        · rw [hyb] at hne; exact absurd rfl hne
      simp only [Col, hy, Bool.false_eq_true, if_false] at hc2
      exact hc2.1
  simp only [Col, if_true] at hc
  refine ⟨hc.1, by omega, nearest hm hq, ?_⟩
  simp only [Prod.mk.injEq, true_and]
  constructor <;> omega
theorem one_nil {m : Int} {l : Wd} (hm : 2 ≤ m) (h : Alt l) (hM : matL m l = (1, 0, 0, 1)) : l = [] := by
  cases l with
  | nil => rfl
  | cons x l =>
    exfalso
    have hc := col m hm _ h
    rw [hM] at hc
    simp only [Col] at hc
    split at hc <;> simp at hc
/-- bounds -/
def Bnd (n : Nat) (r : Wd) : Prop := ∀ x ∈ r, x.2.natAbs ≤ n
theorem Bnd.mono {n k : Nat} {r : Wd} (h : Bnd n r) (hk : n ≤ k) : Bnd k r := fun x hx => Nat.le_trans (h x hx) hk
theorem Bnd.red1 {n : Nat} {r : Wd} {b : Bool} {e : Int} (h : Bnd n r) (he : e.natAbs ≤ 512) : Bnd (n + 512) (red1 r b e) := by
  intro x hx
  unfold Mine.red1 at hx
  split at hx
  · split at hx
    · simp at hx
    · have : x = (b, e) := by simpa using hx
      subst this
      show e.natAbs ≤ n + 512
      omega
  · rename_i c f t
    have hf : f.natAbs ≤ n := h (c, f) (by simp)
    have ht : ∀ y ∈ t, y.2.natAbs ≤ n := fun y hy => h y (by simp [hy])
    split at hx
    · split at hx
      · have := ht x hx; omega
      · rcases List.mem_cons.mp hx with rfl | hx
        · show (e + f).natAbs ≤ n + 512
          omega
        · have := ht x hx; omega
    · split at hx
      · have := h x hx; omega
      · rcases List.mem_cons.mp hx with rfl | hx
        · show e.natAbs ≤ n + 512
          omega
        · have := h x hx; omega
theorem red1_len {r : Wd} {b : Bool} {e : Int} : (red1 r b e).length ≤ r.length + 1 := by
  unfold red1
  split
  · split <;> simp
  · split
    · split <;> simp <;> omega
    · split <;> simp
def redS (xs : Wd) : Wd := xs.foldl (fun r x => red1 r x.1 x.2) []
theorem redS_snoc (xs : Wd) (x : Bool × Int) : redS (xs ++ [x]) = red1 (redS xs) x.1 x.2 := by
  unfold redS
  rw [List.foldl_append]
  rfl
theorem redS_ok : ∀ xs : Wd, (∀ x ∈ xs, x.2.natAbs ≤ 512) → Alt (redS xs) ∧ Bnd (512 * xs.length) (redS xs) ∧ (redS xs).length ≤ xs.length := by
  intro xs
  have key : ∀ (n : Nat) (ys : Wd), ys.length = n → (∀ x ∈ ys, x.2.natAbs ≤ 512) → Alt (redS ys) ∧ Bnd (512 * ys.length) (redS ys) ∧ (redS ys).length ≤ ys.length := by
    intro n
    induction n with
    | zero =>
      intro ys hy _
      have : ys = [] := List.length_eq_zero_iff.mp hy
      subst this
      exact ⟨trivial, (by intro x hx; exact absurd hx (by simp [redS])), Nat.le_refl _⟩
    | succ n ih =>
      intro ys hy hb
      obtain ⟨zs, z, rfl⟩ : ∃ zs z, ys = zs ++ [z] := by
        refine ⟨ys.dropLast, ys.getLast (by intro q; rw [q] at hy; simp at hy), ?_⟩
        exact (List.dropLast_concat_getLast _).symm
      have hz : zs.length = n := by simpa using hy
      obtain ⟨h1, h2, h3⟩ := ih zs hz fun x hx => hb x (by simp [hx])
      rw [redS_snoc]
      refine ⟨h1.red1, ?_, ?_⟩
      · have := h2.red1 (b := z.1) (hb z (by simp))
        refine this.mono ?_
        simp; omega
      · have := @red1_len (redS zs) z.1 z.2
        simp; omega
  exact key _ xs rfl
def mulS (m : Int) (xs : Wd) : M4 := xs.foldl (fun M x => mulR m M x.1 x.2) (1, 0, 0, 1)
theorem mulS_snoc (m : Int) (xs : Wd) (x : Bool × Int) : mulS m (xs ++ [x]) = mulR m (mulS m xs) x.1 x.2 := by
  unfold mulS
  rw [List.foldl_append]
  rfl
theorem mulS_red (m : Int) : ∀ (n : Nat) (xs : Wd), xs.length = n → mulS m xs = matL m (redS xs).reverse := by
  intro n
  induction n with
  | zero =>
    intro ys hy
    have : ys = [] := List.length_eq_zero_iff.mp hy
    subst this
    rfl
  | succ n ih =>
    intro ys hy
    obtain ⟨zs, z, rfl⟩ : ∃ zs z, ys = zs ++ [z] := by
      refine ⟨ys.dropLast, ys.getLast (by intro q; rw [q] at hy; simp at hy), ?_⟩
      exact (List.dropLast_concat_getLast _).symm
    have hz : zs.length = n := by simpa using hy
    rw [mulS_snoc, redS_snoc, matL_red1, ih zs hz]
def Big (B : Nat) (M : M4) : Prop := M.1.natAbs ≤ B ∧ M.2.1.natAbs ≤ B ∧ M.2.2.1.natAbs ≤ B ∧ M.2.2.2.natAbs ≤ B
theorem grow {c x y : Int} {B K : Nat} (hc : c.natAbs + 1 ≤ K) (hx : x.natAbs ≤ B) (hy : y.natAbs ≤ B) : (x + c * y).natAbs ≤ B * K := by
  have h1 : (c * y).natAbs = c.natAbs * y.natAbs := Int.natAbs_mul c y
  have h2 : c.natAbs * y.natAbs ≤ c.natAbs * B := Nat.mul_le_mul_left _ hy
  have h3 : (c.natAbs + 1) * B ≤ K * B := Nat.mul_le_mul_right _ hc
  rw [Nat.add_mul, Nat.one_mul] at h3
  rw [Nat.mul_comm B K]
  omega
theorem matL_big {m : Int} (h1 : 2 ≤ m) (h2 : m ≤ 8) : ∀ l : Wd, Bnd 11264 l → Big (90113 ^ l.length) (matL m l)
  | [], _ => by
    show Big 1 (1, 0, 0, 1)
    exact ⟨by decide, by decide, by decide, by decide⟩
  | (b, e) :: l, hb => by
    have ih := matL_big h1 h2 l fun x hx => hb x (by simp [hx])
    have he : e.natAbs ≤ 11264 := hb (b, e) (by simp)
    have hc : (m * e).natAbs + 1 ≤ 90113 := by
      rw [Int.natAbs_mul]
      have : m.natAbs * e.natAbs ≤ 8 * 11264 := Nat.mul_le_mul (by omega) he
      omega
    rw [List.length_cons, Nat.pow_succ]
    show Big _ (mulL m b e (matL m l))
    generalize matL m l = M at ih ⊢
    generalize 90113 ^ l.length = B at ih ⊢
    obtain ⟨p, q, r, s⟩ := M
    obtain ⟨i1, i2, i3, i4⟩ := ih
    simp only at i1 i2 i3 i4
    have hB : ∀ n : Nat, n ≤ B → n ≤ B * 90113 := fun n hn => by omega
    cases b <;> simp only [mulL, Bool.false_eq_true, if_true, if_false]
    · exact ⟨grow hc i1 i3, grow hc i2 i4, hB _ i3, hB _ i4⟩
    · exact ⟨hB _ i1, hB _ i2, grow hc i3 i1, grow hc i4 i2⟩
theorem log_small {m x : Int} {n : Nat} (h1 : 2 ≤ m) (h2 : m ≤ 8) (hn : n ≤ 22) (hx : x.natAbs ≤ 90113 ^ n) : (2 * m * x).natAbs.log2 < 9000 := by
  by_cases h0 : (2 * m * x).natAbs = 0
  · rw [h0]; decide +kernel
  · have h3 : 90113 ^ n ≤ 90113 ^ 22 := Nat.pow_le_pow_right (by decide) hn
    have h4 : (2 * m * x).natAbs ≤ 16 * 90113 ^ 22 := by
      rw [Int.natAbs_mul]
      refine Nat.mul_le_mul ?_ (Nat.le_trans hx h3)
      omega
    have h5 : 16 * 90113 ^ 22 < 2 ^ 400 := by decide +kernel
    have h6 : (2 * m * x).natAbs.log2 < 400 := (Nat.log2_lt h0).mpr (Nat.lt_of_le_of_lt h4 h5)
    omega
end Mine

namespace Mine
open PySem PySem.W PyProof.Rows
section
open PySem.Builtin PySem.Builtin.Str PySem.StrLaws
abbrev tl (x : Str) : List Nat := x.cps.toList
theorem tl_len (x : Str) : (tl x).length = x.length := by simp [tl, Str.length]
theorem tl_add (x y : Str) : tl (x ++ y) = tl x ++ tl y := by simp [tl, Str.cps_append]
theorem tl_inj {x y : Str} (h : tl x = tl y) : x = y := Str.ext' (by have := congrArg List.toArray h; simpa [tl] using this)
theorem at_one (x : Str) (c hi i : Nat) : At x ⟨#[c]⟩ hi i ↔ i < hi ∧ (tl x)[i]? = some c := by
  unfold At
  rw [subAt_eq]
  show (i + 1 ≤ hi ∧ ((x.cps.toList.drop i).take 1 == [c]) = true) ↔ _
  rw [take1_drop]
  exact Iff.rfl
theorem occ_hi (x : Str) (c hi : Nat) : (occurrences x ⟨#[c]⟩ 0 hi 1 = [] ∧ ∀ i, i < hi → (tl x)[i]? ≠ some c) ∨
    ∃ i r, occurrences x ⟨#[c]⟩ 0 hi 1 = i :: r ∧ i < hi ∧ (tl x)[i]? = some c ∧ ∀ k, k < i → (tl x)[k]? ≠ some c := by
  rw [occ_eq]
  rcases occ_first x ⟨#[c]⟩ hi 1 (Nat.le_refl 1) (List.range' 0 (hi + 1 - 0)) 0 (fun i _ => Nat.zero_le i) with ⟨h0, hn⟩ | ⟨pre, a, post, e, h0, ha, hn⟩
  · refine .inl ⟨by rw [h0], fun i hi' hc => ?_⟩
    exact hn i (by rw [List.mem_range'_1]; omega) ((at_one x c hi i).mpr ⟨hi', hc⟩)
  · have hs := range'_split e
    have ha' := (at_one x c hi a).mp ha
    refine .inr ⟨a, ((forIn (List.range' 0 (hi + 1 - 0)) ((#[] : Array Nat), 0) (occBody x ⟨#[c]⟩ hi 1)).run.fst.toList).tail, ?_, ha'.1, ha'.2, fun k hk hc => hn k (hs k hk) ((at_one x c hi k).mpr ⟨by omega, hc⟩)⟩
    have h1 : ((forIn (List.range' 0 (hi + 1 - 0)) ((#[] : Array Nat), 0) (occBody x ⟨#[c]⟩ hi 1)).run.fst.toList)[0]? = some a := by simpa using h0
    revert h1
    generalize (forIn (List.range' 0 (hi + 1 - 0)) ((#[] : Array Nat), 0) (occBody x ⟨#[c]⟩ hi 1)).run.fst.toList = Z
    intro h1
    cases Z with
    | nil => simp at h1
    | cons z Z => simp at h1; simp [h1]
theorem last_hi (x : Str) (c hi : Nat) : (lastOccurrence x ⟨#[c]⟩ 0 hi = none ∧ ∀ i, i < hi → (tl x)[i]? ≠ some c) ∨
    ∃ i, lastOccurrence x ⟨#[c]⟩ 0 hi = some i ∧ i < hi ∧ (tl x)[i]? = some c ∧ ∀ k, i < k → k < hi → (tl x)[k]? ≠ some c := by
  rw [last_eq]
  have key := last_run x ⟨#[c]⟩ hi (List.range' 0 (hi + 1 - 0)) [] none (fun _ h => nomatch h) (fun _ h => nomatch h) (by simpa using List.pairwise_lt_range' (s := 0) (n := hi + 1 - 0))
  have mem : ∀ i, At x ⟨#[c]⟩ hi i → i ∈ [] ++ List.range' 0 (hi + 1 - 0) := fun i h => by have := ((at_one x c hi i).mp h).1; simp [List.mem_range'] <;> omega
  cases hr : (forIn (List.range' 0 (hi + 1 - 0)) none (lastBody x ⟨#[c]⟩ hi)).run with
  | none =>
    rw [hr] at key
    exact .inl ⟨rfl, fun i h1 h2 => key i (mem i ((at_one x c hi i).mpr ⟨h1, h2⟩)) ((at_one x c hi i).mpr ⟨h1, h2⟩)⟩
  | some a =>
    rw [hr] at key
    have ha := (at_one x c hi a).mp key.1
    exact .inr ⟨a, rfl, ha.1, ha.2, fun k hk h1 h2 => key.2 k (mem k ((at_one x c hi k).mpr ⟨h1, h2⟩)) hk ((at_one x c hi k).mpr ⟨h1, h2⟩)⟩
theorem from_nat (len n : Nat) : fromIndex len (n : Int) = n := by
  unfold fromIndex
  have : ¬ ((n : Int) < 0) := by omega
  rw [if_neg this]
  omega
theorem from_zero (len : Nat) : fromIndex len 0 = 0 := by simp [fromIndex]
variable {x : Str} {c i hi : Nat}
theorem find4_at (hh : hi ≤ x.length) (h1 : i < hi) (h2 : (tl x)[i]? = some c) (h3 : ∀ k, k < i → (tl x)[k]? ≠ some c) : find4 x ⟨#[c]⟩ 0 (hi : Int) = (i : Int) := by
  unfold find4
  rw [from_nat, from_zero, Nat.min_eq_left hh]
  rcases occ_hi x c hi with ⟨h0, hn⟩ | ⟨j, r, h0, h4, h5, h6⟩
  · exact absurd h2 (hn i h1)
  · rw [h0]
    have : j = i := by
      rcases Nat.lt_trichotomy j i with h | h | h
      · exact absurd h5 (h3 j h)
      · exact h
      · exact absurd h2 (h6 i h)
    rw [this]
theorem find4_no (hh : hi ≤ x.length) (h3 : ∀ k, k < hi → (tl x)[k]? ≠ some c) : find4 x ⟨#[c]⟩ 0 (hi : Int) = -1 := by
  unfold find4
  rw [from_nat, from_zero, Nat.min_eq_left hh]
  rcases occ_hi x c hi with ⟨h0, hn⟩ | ⟨j, r, h0, h4, h5, h6⟩
  · rw [h0]
  · exact absurd h5 (h3 j h4)
theorem rfind4_at (hh : hi ≤ x.length) (h1 : i < hi) (h2 : (tl x)[i]? = some c) (h3 : ∀ k, i < k → k < hi → (tl x)[k]? ≠ some c) : rfind4 x ⟨#[c]⟩ 0 (hi : Int) = (i : Int) := by
  unfold rfind4
  rw [from_nat, from_zero, Nat.min_eq_left hh]
  rcases last_hi x c hi with ⟨h0, hn⟩ | ⟨j, h0, h4, h5, h6⟩
  · exact absurd h2 (hn i h1)
  · rw [h0]
    have : j = i := by
      rcases Nat.lt_trichotomy j i with h | h | h
      · exact absurd h2 (h6 i h h1)
      · exact h
      · exact absurd h5 (h3 j h h4)
    rw [this]
theorem rfind4_no (hh : hi ≤ x.length) (h3 : ∀ k, k < hi → (tl x)[k]? ≠ some c) : rfind4 x ⟨#[c]⟩ 0 (hi : Int) = -1 := by
  unfold rfind4
  rw [from_nat, from_zero, Nat.min_eq_left hh]
  rcases last_hi x c hi with ⟨h0, hn⟩ | ⟨j, h0, h4, h5, h6⟩
  · rw [h0]
  · exact absurd h5 (h3 j h4)
theorem find_is (x : Str) (y : Str) : Txt.find x y = find4 x y 0 (x.length : Int) := by
  unfold Txt.find find4
  rw [from_nat, from_zero, Nat.min_self]
  cases occurrences x y 0 x.length 1 <;> rfl
theorem none_in {l r : List Nat} {c k : Nat} (h : c ∉ l) (hk : k < l.length) : (l ++ r)[k]? ≠ some c := by
  rw [List.getElem?_append_left hk]
  exact fun e => h (List.mem_of_getElem? e)
theorem s_nl : Str.ofString "\n" = ⟨#[10]⟩ := by decide +kernel
theorem s_co : Str.ofString ":" = ⟨#[58]⟩ := by decide +kernel
theorem s_do : Str.ofString "." = ⟨#[46]⟩ := by decide +kernel
theorem s_mi : Str.ofString "-" = ⟨#[45]⟩ := by decide +kernel
theorem s_em : Str.ofString "" = ⟨#[]⟩ := by decide +kernel
/-- where the name ends -/
theorem ends2_is {x : Str} {N R : List Nat} (hx : tl x = N ++ R) (h10 : 10 ∉ N) (h58 : 58 ∉ N)
    (hR : R = [] ∨ R = [58, 32, 120, 46, 121] ∨ R = [10, 46, 120, 58, 121] ∨ R = [58, 10, 46]) : ends2 x = (N.length : Int) := by
  have hl : x.length = N.length + R.length := by rw [← tl_len, hx, List.length_append]
  have here : (tl x)[N.length]? = R[0]? := by rw [hx, List.getElem?_append_right (Nat.le_refl _), Nat.sub_self]
  have n10 : ∀ k, k < N.length → (tl x)[k]? ≠ some 10 := fun k hk => by rw [hx]; exact none_in h10 hk
  have n58 : ∀ k, k < N.length → (tl x)[k]? ≠ some 58 := fun k hk => by rw [hx]; exact none_in h58 hk
  have whole10 : 10 ∉ R → ends1 x = (x.length : Int) := by
    intro hr
    unfold ends1
    have e : Txt.find x (Str.ofString "\n") = -1 := by
      rw [find_is, s_nl]
      refine find4_no (Nat.le_refl _) fun k hk e => ?_
      have hm := List.mem_of_getElem? e
      rw [hx] at hm
      rcases List.mem_append.mp hm with h | h
      · exact h10 h
      · exact hr h
    rw [e]
    rfl
  have at10 : ∀ j : Nat, N.length + j < x.length → (∀ k, k < j → R[k]? ≠ some 10) → R[j]? = some 10 → ends1 x = ((N.length + j : Nat) : Int) := by
    intro j hj hb h
    unfold ends1
    have e : Txt.find x (Str.ofString "\n") = ((N.length + j : Nat) : Int) := by
      rw [find_is, s_nl]
      refine find4_at (Nat.le_refl _) hj ?_ fun k hk => ?_
      · rw [hx, List.getElem?_append_right (by omega), show N.length + j - N.length = j by omega]; exact h
      · by_cases hkN : k < N.length
        · exact n10 k hkN
        · rw [hx, List.getElem?_append_right (by omega)]
          exact hb _ (by omega)
    rw [e, if_pos (by omega)]
  have fin1 : ∀ E : Nat, E ≤ x.length → ends1 x = (E : Int) → (N.length < E ∧ R[0]? = some 58) ∨ (N.length = E) → ends2 x = (N.length : Int) := by
    intro E hE he h
    unfold ends2
    rw [he, s_co]
    rcases h with ⟨h1, h2⟩ | h1
    · have e := find4_at (x := x) (c := 58) hE h1 (by rw [here]; exact h2) n58
      rw [e, if_pos (by omega)]
    · subst h1
      have e := find4_no (x := x) (c := 58) hE n58
      rw [e]
      rfl
  rcases hR with rfl | rfl | rfl | rfl
  · exact fin1 x.length (Nat.le_refl _) (whole10 (by simp)) (.inr (by simpa using hl.symm))
  · exact fin1 x.length (Nat.le_refl _) (whole10 (by decide)) (.inl ⟨by simp at hl; omega, rfl⟩)
  · exact fin1 N.length (by omega) (at10 0 (by simp at hl; omega) (fun k hk => by omega) rfl) (.inr rfl)
  · refine fin1 (N.length + 1) (by simp at hl; omega) (at10 1 (by simp at hl; omega) (fun k hk => ?_) rfl) (.inl ⟨by omega, rfl⟩)
    have : k = 0 := by omega
    subst this
    decide
theorem slice_ss (x : Str) {a b : Nat} (hab : a ≤ b) (hb : b ≤ x.length) : Txt.slice x (some (a : Int)) (some (b : Int)) = ⟨(((tl x).drop a).take (b - a)).toArray⟩ := sliceText_nat x hab hb
theorem slice_ns (x : Str) {b : Nat} (hb : b ≤ x.length) : Txt.slice x none (some (b : Int)) = ⟨((tl x).take b).toArray⟩ := by
  have h := sliceText_to (x := x) (j := (b : Int)) ⟨by omega, by rw [show x.cps.toList.length = x.length from tl_len x]; omega⟩
  simpa [Txt.slice, sliceText] using h
theorem slice_sn (x : Str) {a : Nat} (ha : a ≤ x.length) : Txt.slice x (some (a : Int)) none = ⟨((tl x).drop a).toArray⟩ := by
  have h := sliceText_from (x := x) (i := (a : Int)) ⟨by omega, by rw [show x.cps.toList.length = x.length from tl_len x]; omega⟩
  have e : ((x.cps.toList.length : Int) - (a : Int)).toNat = x.cps.toList.length - a := by omega
  rw [e] at h
  have e2 : (((tl x).drop a).take ((tl x).length - a)) = (tl x).drop a := List.take_of_length_le (by simp)
  have h' : Txt.slice x (some (a : Int)) none = ⟨(((tl x).drop ((a : Int).toNat)).take ((tl x).length - a)).toArray⟩ := h
  rw [h', show ((a : Int)).toNat = a by omega, e2]
theorem strip_is {x : Str} {A T R : List Nat} (hx : tl x = A ++ T ++ R) (h10 : 10 ∉ A ++ T) (h58 : 58 ∉ A ++ T) (h46 : 46 ∉ T) (hA : A = [] ∨ ∃ A', A = A' ++ [46])
    (hR : R = [] ∨ R = [58, 32, 120, 46, 121] ∨ R = [10, 46, 120, 58, 121] ∨ R = [58, 10, 46]) : strip x = ⟨T.toArray⟩ := by
  have e2 := ends2_is hx h10 h58 hR
  have hl : x.length = (A ++ T).length + R.length := by rw [← tl_len, hx, List.length_append]
  have hle : (A ++ T).length ≤ x.length := by omega
  have e3 : start3 x = (A.length : Int) := by
    unfold start3
    rw [e2, s_do]
    rcases hA with rfl | ⟨A', rfl⟩
    · have e := rfind4_no (x := x) (c := 46) hle fun k hk => by
        rw [hx]
        exact none_in (by simpa using h46) hk
      rw [e]
      rfl
    · have e := rfind4_at (x := x) (c := 46) (i := A'.length) hle (by simp) (by rw [hx, List.append_assoc, List.append_assoc, List.getElem?_append_right (Nat.le_refl _), Nat.sub_self]; rfl) fun k hk1 hk2 => by
        rw [hx, List.append_assoc, List.getElem?_append_right (by simp; omega)]
        exact none_in h46 (by simp at hk2 ⊢; omega)
      rw [e, if_pos (by omega)]
      simp
  unfold strip
  rw [e2, e3, slice_ss x (by simp) hle]
  congr 1
  rw [hx, List.append_assoc, List.drop_left, List.length_append, Nat.add_sub_cancel_left, List.take_left]
end
end Mine

namespace Mine
open PySem PySem.W PyProof.Rows
section
open PySem.Builtin PySem.Builtin.Str PySem.StrLaws
def sg (b : Bool) : Str := if b = true then Str.ofString "b" else Str.ofString "a"
def sgc (b : Bool) : Nat := if b = true then 98 else 97
theorem sg_tl (b : Bool) : tl (sg b) = [sgc b] := by
  cases b
  · show tl (Str.ofString "a") = [97]; decide +kernel
  · show tl (Str.ofString "b") = [98]; decide +kernel
def nameR : Wd → Str
  | [] => Str.ofString "C"
  | x :: r => nameR r ++ Str.ofString "." ++ partS (sg x.1) x.2
def topR : Wd → Str
  | [] => Str.ofString "C"
  | x :: _ => partS (sg x.1) x.2
def hexL (n : Nat) : List Nat := if h : n = 0 then [] else hexL (n / 16) ++ [65 + n % 16]
termination_by n
decreasing_by omega
theorem hexL_zero : hexL 0 = [] := by rw [hexL]; simp
theorem hexL_pos {n : Nat} (h : n ≠ 0) : hexL n = hexL (n / 16) ++ [65 + n % 16] := by rw [hexL]; simp [h]
theorem letB_nat {n : Nat} (h : n < 16) : (letB n).toNat = 65 + n := by
  unfold letB
  simp [UInt8.toNat_ofNat']; omega
theorem hexB_tl (n : Nat) : tl (strOfB (hexB n)) = hexL n := by
  show (((hexB n).toList.map UInt8.toNat).toArray).toList = hexL n
  rw [List.toList_toArray]
  induction n using Nat.strongRecOn with
  | ind n ih =>
    by_cases h0 : n = 0
    · subst h0; simp [hexB_zero, hexL_zero]
    · rw [hexB_pos h0, hexL_pos h0]
      have := ih (n / 16) (by omega)
      simp only [Array.toList_append, List.map_append, this, List.map_cons, List.map_nil, letB_nat (show n % 16 < 16 by omega)]
theorem hexL_in (n : Nat) : ∀ c ∈ hexL n, 65 ≤ c ∧ c ≤ 80 := by
  induction n using Nat.strongRecOn with
  | ind n ih =>
    intro c hc
    by_cases h0 : n = 0
    · subst h0; simp [hexL_zero] at hc
    · rw [hexL_pos h0] at hc
      rcases List.mem_append.mp hc with h | h
      · exact ih (n / 16) (by omega) c h
      · have : c = 65 + n % 16 := by simpa using h
        omega
def minL (e : Int) : List Nat := if e < 0 then [45] else []
theorem part_tl (b : Bool) (e : Int) : tl (partS (sg b) e) = sgc b :: (minL e ++ hexL e.natAbs) := by
  unfold partS minL
  rw [tl_add, hexB_tl]
  split
  · rw [tl_add, sg_tl, s_mi]; rfl
  · rw [tl_add, sg_tl, s_em]; rfl
theorem part_free (b : Bool) (e : Int) : ∀ c ∈ tl (partS (sg b) e), c = 45 ∨ (65 ≤ c ∧ c ≤ 98) := by
  intro c hc
  rw [part_tl] at hc
  rcases List.mem_cons.mp hc with h | h
  · subst h; unfold sgc; split <;> simp
  · rcases List.mem_append.mp h with h | h
    · unfold minL at h; split at h
      · left; simpa using h
      · simp at h
    · have := hexL_in _ c h; omega
theorem name_free : ∀ r : Wd, ∀ c ∈ tl (nameR r), c = 45 ∨ c = 46 ∨ (65 ≤ c ∧ c ≤ 98)
  | [], c, hc => by
    have : tl (nameR []) = [67] := by show tl (Str.ofString "C") = [67]; decide +kernel
    rw [this] at hc
    have : c = 67 := by simpa using hc
    omega
  | x :: r, c, hc => by
    have e : tl (nameR (x :: r)) = tl (nameR r) ++ [46] ++ tl (partS (sg x.1) x.2) := by
      show tl (nameR r ++ Str.ofString "." ++ partS (sg x.1) x.2) = _
      rw [tl_add, tl_add, s_do]
    rw [e] at hc
    rcases List.mem_append.mp hc with h | h
    · rcases List.mem_append.mp h with h | h
      · exact name_free r c h
      · right; left; simpa using h
    · have := part_free _ _ c h; omega
theorem name_tl (x : Bool × Int) (r : Wd) : tl (nameR (x :: r)) = tl (nameR r) ++ [46] ++ tl (partS (sg x.1) x.2) := by
  show tl (nameR r ++ Str.ofString "." ++ partS (sg x.1) x.2) = _
  rw [tl_add, tl_add, s_do]
def tailOf (R : Str) : Prop := tl R = [] ∨ tl R = [58, 32, 120, 46, 121] ∨ tl R = [10, 46, 120, 58, 121] ∨ tl R = [58, 10, 46]
theorem strip_name (r : Wd) {R : Str} (hR : tailOf R) : strip (nameR r ++ R) = topR r := by
  cases r with
  | nil =>
    have hc : tl (nameR []) = [67] := by show tl (Str.ofString "C") = [67]; decide +kernel
    have h := strip_is (x := nameR [] ++ R) (A := []) (T := [67]) (R := tl R) (by rw [tl_add, hc]; rfl) (by decide) (by decide) (by decide) (.inl rfl) hR
    rw [h]
    show _ = Str.ofString "C"
    decide +kernel
  | cons x r =>
    have hf := name_free (x :: r)
    have hp := part_free x.1 x.2
    have hn : ∀ c, c = 10 ∨ c = 58 → c ∉ tl (nameR (x :: r)) := fun c hc hm => by have := hf c hm; omega
    have h := strip_is (x := nameR (x :: r) ++ R) (A := tl (nameR r) ++ [46]) (T := tl (partS (sg x.1) x.2)) (R := tl R) (by rw [tl_add, name_tl]) (by rw [← name_tl]; exact hn 10 (.inl rfl)) (by rw [← name_tl]; exact hn 58 (.inr rfl))
      (fun hm => by have := hp 46 hm; omega) (.inr ⟨_, rfl⟩) hR
    rw [h]
    exact tl_inj (by simp [tl, topR])
theorem tails_ok : tailOf (Str.ofString "") ∧ tailOf (Str.ofString ": x.y") ∧ tailOf (Str.ofString "\n.x:y") ∧ tailOf (Str.ofString ":\n.") := by
  refine ⟨.inl (by decide +kernel), .inr (.inl (by decide +kernel)), .inr (.inr (.inl (by decide +kernel))), .inr (.inr (.inr (by decide +kernel)))⟩
theorem part_len (b : Bool) {e : Int} (he : e.natAbs < 65536) : (partS (sg b) e).length ≤ 6 := by
  rw [← tl_len, part_tl]
  have h1 : (minL e).length ≤ 1 := by unfold minL; split <;> simp
  have h2 : (hexL e.natAbs).length ≤ 4 := by rw [← hexB_tl, tl_len]; exact strH_len he
  simp only [List.length_cons, List.length_append]
  omega
theorem name_len {n : Nat} (hn : n < 65536) : ∀ r : Wd, Bnd n r → (nameR r).length ≤ 1 + 7 * r.length
  | [], _ => by
    have : (Str.ofString "C").length = 1 := by decide +kernel
    show (Str.ofString "C").length ≤ _
    omega
  | x :: r, h => by
    have ih := name_len hn r fun y hy => h y (by simp [hy])
    have hx := h x (by simp)
    have hp := part_len x.1 (e := x.2) (by omega)
    rw [← tl_len, name_tl]
    rw [← tl_len] at ih hp
    simp only [List.length_append, List.length_cons, List.length_nil]
    omega
theorem top_len {n : Nat} (hn : n < 65536) (r : Wd) (h : Bnd n r) : (topR r).length ≤ 6 := by
  cases r with
  | nil =>
    have : (Str.ofString "C").length = 1 := by decide +kernel
    show (Str.ofString "C").length ≤ 6
    omega
  | cons x r =>
    have hx := h x (by simp)
    exact part_len x.1 (e := x.2) (by omega)
/-- the first sign -/
theorem top_sign (r : Wd) (b : Bool) : (Txt.slice (topR r) none (some 1) == sg b) = (match r with | [] => false | x :: _ => x.1 == b) := by
  cases r with
  | nil =>
    cases b <;> decide +kernel
  | cons x r =>
    have hl : 1 ≤ (partS (sg x.1) x.2).length := by rw [← tl_len, part_tl]; simp
    have e : Txt.slice (topR (x :: r)) none (some 1) = sg x.1 := by
      have := slice_ns (partS (sg x.1) x.2) hl
      have e1 : Txt.slice (topR (x :: r)) none (some 1) = ⟨((tl (partS (sg x.1) x.2)).take 1).toArray⟩ := this
      rw [e1]
      refine tl_inj ?_
      rw [part_tl, sg_tl]
      rfl
    rw [e]
    show (sg x.1 == sg b) = (x.1 == b)
    cases x.1 <;> cases b <;> decide +kernel
/-- the name without its last part -/
theorem name_less (x : Bool × Int) (r : Wd) : Txt.slice (nameR (x :: r)) none (some (((nameR (x :: r)).length : Int) - ((topR (x :: r)).length : Int) - 1)) = nameR r := by
  have hl : (nameR (x :: r)).length = (nameR r).length + 1 + (topR (x :: r)).length := by
    rw [← tl_len, name_tl, ← tl_len (nameR r), ← tl_len (topR (x :: r))]
    simp [topR]
    omega
  have e : ((nameR (x :: r)).length : Int) - ((topR (x :: r)).length : Int) - 1 = (((nameR r).length : Nat) : Int) := by omega
  rw [e, slice_ns _ (by omega)]
  refine tl_inj ?_
  show (tl (nameR (x :: r))).take (nameR r).length = tl (nameR r)
  rw [name_tl, List.append_assoc, ← tl_len, List.take_left]
/-- the exponent read back -/
theorem find_letter : ∀ k : Fin 16, Txt.find (Str.ofString "ABCDEFGHIJKLMNOP") ⟨#[65 + k.val]⟩ = ((k.val : Nat) : Int) := by decide +kernel
def exStep (σ : Int × Unit) (k : Str) : Int × Unit := if (k != Str.ofString "-") = true then (16 * σ.fst + Txt.find (Str.ofString "ABCDEFGHIJKLMNOP") k, ()) else (σ.fst, ())
def sgn1 (l : List Nat) : List Str := l.map fun n => (⟨#[n]⟩ : Str)
theorem one_letter {k : Nat} (v : Int) (hk : k < 16) : exStep (v, ()) ⟨#[65 + k]⟩ = (16 * v + k, ()) := by
  unfold exStep
  have h1 : ((⟨#[65 + k]⟩ : Str) != Str.ofString "-") = true := by
    rw [s_mi]
    simp only [bne_iff_ne, ne_eq, Str.mk.injEq]
    intro h
    have : 65 + k = 45 := by simpa using h
    omega
  rw [if_pos h1, find_letter ⟨k, hk⟩]
theorem hex_back (n : Nat) : (sgn1 (hexL n)).foldl exStep (0, ()) = ((n : Int), ()) := by
  induction n using Nat.strongRecOn with
  | ind n ih =>
    by_cases h0 : n = 0
    · subst h0; simp [hexL_zero, sgn1]
    · rw [hexL_pos h0]
      have := ih (n / 16) (by omega)
      simp only [sgn1, List.map_append, List.map_cons, List.map_nil, List.foldl_append, List.foldl_cons, List.foldl_nil] at this ⊢
      rw [this, one_letter _ (by omega)]
      congr 1
      omega
theorem expo_part (b : Bool) (e : Int) : expo (partS (sg b) e) = e := by
  have hl : 1 ≤ (partS (sg b) e).length := by rw [← tl_len, part_tl]; simp
  have eF : expoF (partS (sg b) e) = (e.natAbs : Int) := by
    show ((signs (Txt.slice (partS (sg b) e) (some 1) none)).foldl exStep (0, ())).fst = _
    have e1 : Txt.slice (partS (sg b) e) (some 1) none = ⟨((tl (partS (sg b) e)).drop 1).toArray⟩ := slice_sn _ hl
    have e2 : signs (Txt.slice (partS (sg b) e) (some 1) none) = sgn1 (minL e ++ hexL e.natAbs) := by
      rw [e1, part_tl]
      simp [signs, sgn1]
    rw [e2]
    unfold sgn1
    rw [List.map_append, List.foldl_append]
    have e3 : ((minL e).map fun n => (⟨#[n]⟩ : Str)).foldl exStep (0, ()) = (0, ()) := by
      unfold minL
      split
      · decide +kernel
      · rfl
    rw [e3]
    have := hex_back e.natAbs
    unfold sgn1 at this
    rw [this]
  unfold expo
  rw [eF]
  have key : (Txt.slice (partS (sg b) e) (some 1) (some 2) == Str.ofString "-") = decide (e < 0) := by
    have tp := part_tl b e
    by_cases h2 : 2 ≤ (partS (sg b) e).length
    · have e1 : Txt.slice (partS (sg b) e) (some 1) (some 2) = ⟨(((tl (partS (sg b) e)).drop 1).take (2 - 1)).toArray⟩ := slice_ss _ (by decide) h2
      rw [e1, tp, s_mi]
      by_cases he : e < 0
      · simp [minL, he]
      · simp only [minL, he, if_false, List.nil_append, List.drop_succ_cons, List.drop_zero, decide_false]
        rw [beq_eq_false_iff_ne]
        intro h
        have h3 : ((hexL e.natAbs).take 1).toArray = #[45] := by simpa using h
        have h4 : (hexL e.natAbs).take 1 = [45] := by simpa using congrArg Array.toList h3
        have h5 : 45 ∈ hexL e.natAbs := List.mem_of_mem_take (by rw [h4]; simp : 45 ∈ (hexL e.natAbs).take 1)
        have := hexL_in _ 45 h5
        omega
    · have hlen : (partS (sg b) e).length = 1 := by omega
      have h3 : minL e ++ hexL e.natAbs = [] := by
        rw [← tl_len, tp] at hlen
        simpa using hlen
      have h4 : ¬ e < 0 := by
        intro he
        unfold minL at h3
        rw [if_pos he] at h3
        simp at h3
      have hh : hexL e.natAbs = [] := (List.append_eq_nil_iff.mp h3).2
      have h5 : e = 0 := by
        by_cases h0 : e.natAbs = 0
        · omega
        · rw [hexL_pos h0] at hh; simp at hh
      subst h5
      cases b <;> decide +kernel
  rw [key]
  by_cases he : e < 0
  · simp [he]; omega
  · simp [he]; omega
theorem expo_c : expo (Str.ofString "C") = 0 := by decide +kernel
theorem expo_top {n : Nat} (r : Wd) (h : Bnd n r) : (expo (topR r)).natAbs ≤ n := by
  cases r with
  | nil => show (expo (Str.ofString "C")).natAbs ≤ n; rw [expo_c]; exact Nat.zero_le _
  | cons x r =>
    show (expo (partS (sg x.1) x.2)).natAbs ≤ n
    rw [expo_part]
    exact h x (by simp)
end
end Mine

namespace Mine
open PySem PySem.W PyProof.Rows
section
open PySem.Builtin PySem.Builtin.Str PySem.StrLaws
theorem step_yes {r : Wd} {b : Bool} {e : Int} (h : (Txt.slice (topR r) none (some 1) == sg b) = true) (hz : e + expo (topR r) ≠ 0) :
    Txt.slice (nameR r) none (some (((nameR r).length : Int) - ((topR r).length : Int) - 1)) ++ Str.ofString "." ++ partS (sg b) (e + expo (topR r)) = nameR (red1 r b e) := by
  rw [top_sign] at h
  cases r with
  | nil => exact absurd h (by simp)
  | cons x r =>
    obtain ⟨c, f⟩ := x
    have hc : c = b := by simpa using h
    subst hc
    rw [name_less]
    have hx : expo (topR ((c, f) :: r)) = f := expo_part c f
    rw [hx] at hz ⊢
    unfold red1
    simp only [if_true, if_neg hz, nameR]
theorem step_gone {r : Wd} {b : Bool} {e : Int} (h : (Txt.slice (topR r) none (some 1) == sg b) = true) (hz : e + expo (topR r) = 0) :
    Txt.slice (nameR r) none (some (((nameR r).length : Int) - ((topR r).length : Int) - 1)) = nameR (red1 r b e) := by
  rw [top_sign] at h
  cases r with
  | nil => exact absurd h (by simp)
  | cons x r =>
    obtain ⟨c, f⟩ := x
    have hc : c = b := by simpa using h
    subst hc
    rw [name_less]
    have hx : expo (topR ((c, f) :: r)) = f := expo_part c f
    rw [hx] at hz
    unfold red1
    simp only [if_true, if_pos hz]
theorem step_new {r : Wd} {b : Bool} {e : Int} (h : (Txt.slice (topR r) none (some 1) == sg b) = false) (hz : e ≠ 0) :
    nameR r ++ Str.ofString "." ++ partS (sg b) e = nameR (red1 r b e) := by
  rw [top_sign] at h
  cases r with
  | nil => unfold red1; simp only [if_neg hz, nameR]
  | cons x r =>
    obtain ⟨c, f⟩ := x
    have hc : ¬ c = b := by simpa using h
    unfold red1
    simp only [if_neg hc, if_neg hz, nameR]
theorem step_same {r : Wd} {b : Bool} {e : Int} (h : (Txt.slice (topR r) none (some 1) == sg b) = false) (hz : e = 0) :
    nameR r = nameR (red1 r b e) := by
  rw [top_sign] at h
  cases r with
  | nil => unfold red1; simp only [if_pos hz]
  | cons x r =>
    obtain ⟨c, f⟩ := x
    have hc : ¬ c = b := by simpa using h
    unfold red1
    simp only [if_neg hc, if_pos hz]
/-- the figures -/
theorem item_all : ∀ k : Fin 16, Txt.item (Str.ofString "ABCDEFGHIJKLMNOP") ((k.val : Nat) : Int) = ⟨#[65 + k.val]⟩ := by decide +kernel
theorem dg_is (n k : Nat) : dg n k = ⟨#[65 + n / 16 ^ k % 16]⟩ := by
  unfold dg
  have e1 : ((n : Int).fdiv (16 ^ k)) = ((n / 16 ^ k : Nat) : Int) := by
    have : (16 : Int) ^ k = ((16 ^ k : Nat) : Int) := by simp
    rw [this, Int.fdiv_eq_ediv_of_nonneg _ (Int.natCast_nonneg _)]
    simp
  rw [e1, Int.fmod_eq_emod_of_nonneg _ (by decide)]
  have e2 : ((n / 16 ^ k : Nat) : Int) % 16 = ((n / 16 ^ k % 16 : Nat) : Int) := by omega
  rw [e2]
  exact item_all ⟨n / 16 ^ k % 16, by omega⟩
theorem downs : downKs 3 4 = [3, 2, 1, 0] := by decide
theorem wstep_tl (e : Int) (acc : Str) (k : Nat) : tl (wstep e acc (k : Int)) = tl acc ++ (if 16 ^ k ≤ e.natAbs then [65 + e.natAbs / 16 ^ k % 16] else []) := by
  unfold wstep
  rw [Int.toNat_natCast]
  have : ((16 : Int) ^ k ≤ (e.natAbs : Int)) ↔ 16 ^ k ≤ e.natAbs := by
    have h : (16 : Int) ^ k = ((16 ^ k : Nat) : Int) := by simp
    rw [h]; omega
  by_cases h : 16 ^ k ≤ e.natAbs
  · rw [if_pos (this.mpr h), if_pos h, tl_add, dg_is]
  · rw [if_neg (fun q => h (this.mp q)), if_neg h, List.append_nil]
theorem w0_tl (e : Int) : tl (w0 e) = minL e := by
  unfold w0 minL
  split
  · rw [s_mi]
  · rw [s_em]
theorem writ_tl {e : Int} (he : e.natAbs < 65536) : tl (writ e) = minL e ++ hexL e.natAbs := by
  have e0 : writ e = wstep e (wstep e (wstep e (wstep e (w0 e) ((3 : Nat) : Int)) ((2 : Nat) : Int)) ((1 : Nat) : Int)) ((0 : Nat) : Int) := by
    unfold writ wrtL
    rw [downs]
    rfl
  rw [e0, wstep_tl, wstep_tl, wstep_tl, wstep_tl, w0_tl]
  generalize e.natAbs = n at he ⊢
  rw [List.append_assoc, List.append_assoc, List.append_assoc]
  congr 1
  simp only [show (16 : Nat) ^ 3 = 4096 from rfl, show (16 : Nat) ^ 2 = 256 from rfl, show (16 : Nat) ^ 1 = 16 from rfl, show (16 : Nat) ^ 0 = 1 from rfl, Nat.div_one]
  have st : ∀ m : Nat, m ≠ 0 → hexL m = hexL (m / 16) ++ [65 + m % 16] := fun m h => hexL_pos h
  by_cases h0 : n = 0
  · subst h0; simp [hexL_zero]
  rw [st n h0]
  by_cases h1 : n / 16 = 0
  · have a1 : ¬ 4096 ≤ n := by omega
    have a2 : ¬ 256 ≤ n := by omega
    have a3 : ¬ 16 ≤ n := by omega
    have a4 : 1 ≤ n := by omega
    simp [a1, a2, a3, a4, h1, hexL_zero]
  rw [st (n / 16) h1]
  by_cases h2 : n / 16 / 16 = 0
  · have a1 : ¬ 4096 ≤ n := by omega
    have a2 : ¬ 256 ≤ n := by omega
    have a3 : 16 ≤ n := by omega
    have a4 : 1 ≤ n := by omega
    simp [a1, a2, a3, a4, h2, hexL_zero]
  rw [st (n / 16 / 16) h2]
  by_cases h3 : n / 16 / 16 / 16 = 0
  · have a1 : ¬ 4096 ≤ n := by omega
    have a2 : 256 ≤ n := by omega
    have a3 : 16 ≤ n := by omega
    have a4 : 1 ≤ n := by omega
    have d2 : n / 16 / 16 = n / 256 := by omega
    have d5 : n / 256 / 16 = 0 := by omega
    simp [a1, a2, a3, a4, hexL_zero, d2, d5]
  rw [st (n / 16 / 16 / 16) h3]
  have h4 : n / 16 / 16 / 16 / 16 = 0 := by omega
  have a1 : 4096 ≤ n := by omega
  have a2 : 256 ≤ n := by omega
  have a3 : 16 ≤ n := by omega
  have a4 : 1 ≤ n := by omega
  have d2 : n / 16 / 16 = n / 256 := by omega
  have d3 : n / 16 / 16 / 16 = n / 4096 := by omega
  have d4 : n / 4096 / 16 = 0 := by omega
  simp [a1, a2, a3, a4, d2]
  have d5 : n / 256 / 16 = n / 4096 := by omega
  simp [d5, d4, hexL_zero]
theorem told_a {x : Str} {e : Int} (he : e.natAbs < 65536) : x ++ Str.ofString ".a" ++ writ e = x ++ Str.ofString "." ++ partS (sg false) e := by
  refine tl_inj ?_
  rw [tl_add, tl_add, tl_add, tl_add, writ_tl he, part_tl, show tl (Str.ofString ".a") = [46, 97] from by decide +kernel, s_do]
  simp [sgc, tl]
theorem told_b {x : Str} {e : Int} (he : e.natAbs < 65536) : x ++ Str.ofString ".b" ++ writ e = x ++ Str.ofString "." ++ partS (sg true) e := by
  refine tl_inj ?_
  rw [tl_add, tl_add, tl_add, tl_add, writ_tl he, part_tl, show tl (Str.ofString ".b") = [46, 98] from by decide +kernel, s_do]
  simp [sgc, tl]
end
end Mine

namespace Mine
open PySem PySem.W PyProof.Rows
def unD : Dat → Bool × Int
  | .tuple [.str x, .int e] => (x == Str.ofString "b", e)
  | _ => (false, 0)
theorem unD_is (b : Bool) (e : Int) : unD (.tuple [.str (sg b), .int e]) = (b, e) := by
  cases b
  · show (sg false == Str.ofString "b", e) = (false, e)
    rw [show (sg false == Str.ofString "b") = false from by decide +kernel]
  · show (sg true == Str.ofString "b", e) = (true, e)
    rw [show (sg true == Str.ofString "b") = true from by decide +kernel]
def Shape (ds : List Dat) : Prop := ∀ d ∈ ds, ∃ (b : Bool) (e : Int), d = Dat.tuple [Dat.str (sg b), Dat.int e] ∧ e.natAbs ≤ 512
abbrev Rd (pre : List Dat) : Wd := redS (pre.map unD)
def LClaim (w : World) (f : Addr) (d : Nat) (pre : Prop) (ds : List Dat) (vs : Addr → List Value) (R : Tok → Value) : Prop :=
  ∀ (mean : ExcName → Option Value) (mg mb : Str → Option Value) (D : Addr) (ys : List Value) (nn : Nat) (news : List (Addr × Obj)) (dp un : Nat) (gd : Option (List Code)) (cn : Str) (cs : Scope) (a : Addr) (ccd : Value) (cl : List (Str × Addr)) (outer : List Env) (A₀ : Around) (base h₀ : Heap) (L : Addr) (m : Str → Option Value) (s : Shared) (Q E : Value → Shared → Prop),
    Below A₀ base outer h₀ → Fr h₀ L s.heap m → (hd.heap_39 w.params).In h₀ → News h₀ L s.heap ((D, PySem.W.listOf ys.toArray nn) :: news) → DatAll news ys ds → Top hd.view_39 (looseW hd.view_39 []) mean mg mb h₀ → cs.kind = .function →
    pre → dp + d < recursionLimit → un + 8 * d + 200 < cLine → CbRet h₀ L m ((D, PySem.W.listOf ys.toArray nn) :: news) s Q R →
      wpAny (model PySem.Challenge.rw_wr0006_01.row.prog w) (ktrTop dp un gd cn cs L a ccd cl outer) (call (.ref f) (vs D)) Q E s
theorem LClaim.use {w : World} {f : Addr} {d : Nat} {pre : Prop} {ds : List Dat} {vs : Addr → List Value} {R : Tok → Value} (C : LClaim w f d pre ds vs R)
    {mean : ExcName → Option Value} {mg mb : Str → Option Value} {D : Addr} {ys : List Value} {nn : Nat} {news : List (Addr × Obj)} {dp un : Nat} {gd : Option (List Code)} {cn : Str} {cs : Scope} {a : Addr} {ccd : Value} {cl : List (Str × Addr)} {outer : List Env} {A₀ : Around} {base h₀ : Heap} {L : Addr} {m : Str → Option Value} {s : Shared} {Q E : Value → Shared → Prop}
    (B : Below A₀ base outer h₀) (F : Fr h₀ L s.heap m) (X : (hd.heap_39 w.params).In h₀) (N : News h₀ L s.heap ((D, PySem.W.listOf ys.toArray nn) :: news)) (hD : DatAll news ys ds) (T : Top hd.view_39 (looseW hd.view_39 []) mean mg mb h₀) (hk : cs.kind = .function)
    (hp : pre) (h1 : dp + d < recursionLimit) (h2 : un + 8 * d + 200 < cLine) (hr : CbRet h₀ L m ((D, PySem.W.listOf ys.toArray nn) :: news) s Q R) :
    wpAny (model PySem.Challenge.rw_wr0006_01.row.prog w) (ktrTop dp un gd cn cs L a ccd cl outer) (call (.ref f) (vs D)) Q E s :=
  C _ _ _ _ _ _ _ _ _ _ _ _ _ _ _ _ _ _ _ _ _ _ _ _ B F X N hD T hk hp h1 h2 hr
end Mine

namespace Mine
open PySem PySem.W PyProof.Rows PySem.Calls
def PEnd {σ : Type} (h₀ : Heap) (L : Addr) (ps : σ → List (Str × Value)) (stored : List Str) (m₀ : Str → Option Value) (P : σ → Prop) (keep : List (Addr × Obj)) (s₁ s₂ : Shared) : Prop :=
  ∃ (c' : σ) (h' : Heap) (tk : Nat) (m' : Str → Option Value) (news' : List (Addr × Obj)), s₂ = { s₁ with heap := h', toks := tk } ∧ Fr h₀ L h' m' ∧ News h₀ L h' news' ∧ (∀ p ∈ keep, p ∈ news') ∧ (∀ p ∈ ps c', m' p.1 = some p.2) ∧
    (∀ z, (∀ p ∈ ps c', z ≠ p.1) → stored.contains z = false → m' z = m₀ z) ∧ P c'
def PPost {σ : Type} (h₀ : Heap) (L : Addr) (ps : σ → List (Str × Value)) (stored : List Str) (m₀ : Str → Option Value) (P : σ → Prop) (keep : List (Addr × Obj)) (s₁ : Shared) (Q : Flow → Shared → Prop) (f : Flow) (s₂ : Shared) : Prop :=
  match f with
  | .ret v => Q (.ret v) s₂
  | .brk => Q .next s₂
  | _ => PEnd h₀ L ps stored m₀ P keep s₁ s₂
theorem p_end {σ : Type} {h₀ : Heap} {L : Addr} {ps : σ → List (Str × Value)} {stored : List Str} {m₀ : Str → Option Value} {P : σ → Prop} {keep : List (Addr × Obj)} {s₁ : Shared} {h' : Heap} {tk : Nat} {m' : Str → Option Value} {news' : List (Addr × Obj)} (c' : σ)
    (F : Fr h₀ L h' m') (N : News h₀ L h' news') (hn : ∀ p ∈ keep, p ∈ news') (hk : ∀ p ∈ ps c', m' p.1 = some p.2) (hr : ∀ z, (∀ p ∈ ps c', z ≠ p.1) → stored.contains z = false → m' z = m₀ z) (hp : P c') :
    PEnd h₀ L ps stored m₀ P keep s₁ { s₁ with heap := h', toks := tk } := ⟨c', h', tk, m', news', rfl, F, N, hn, hk, hr, hp⟩
theorem subL_of {a b : List (Addr × Obj)} (h : ∀ p ∈ a, p ∈ b) : SubL a b := by
  induction a with
  | nil => trivial
  | cons p r ih => exact ⟨h p (by simp), ih fun q hq => h q (by simp [hq])⟩
theorem offW_of {I : Addr} {o : Obj} {news : List (Addr × Obj)} (h : ∀ p ∈ news, p.1 < I) : OffW [(I, o)] news := by
  induction news with
  | nil => trivial
  | cons p r ih => exact ⟨⟨.inl (Nat.ne_of_lt (h p (by simp))), trivial⟩, ih fun q hq => h q (by simp [hq])⟩
section
variable {prog : Program} {w : World} {A : Around} {E : Value → Shared → Prop} {s : Shared} {env : Env} {h₀ : Heap} {target : Expr} {body : List Stmt} {Q : Flow → Shared → Prop}
theorem pair_rest {σ : Type} {ax I : Addr} {lo : Obj} {m₀ : Str → Option Value} {news : List (Addr × Obj)} {all : List Dat} (ps : σ → List (Str × Value)) (stored : List Str) (P : List Dat → σ → Prop)
    (hm : (ax, lo) ∈ news) (hI : ∀ p ∈ news, p.1 < I)
    (turn : ∀ (c : σ) (pre : List Dat) (d : Dat) (post : List Dat) (v : Value) (u : Str → Option Value) (h : Heap) (tk : Nat) (oI : Obj), all = pre ++ d :: post → DatIn news v d → P pre c → Fr h₀ env.locals h (kstB (fun z => if stored.contains z then u z else m₀ z) (ps c)) → News h₀ env.locals h ((I, oI) :: news) →
      wpAny (model prog w) A (assign target env v) (fun _ s₂ => wpAny (model prog w) A (execs body env) (PPost h₀ env.locals ps stored m₀ (P (pre ++ [d])) ((I, oI) :: news) { s with heap := h, toks := tk } Q) E s₂) E { s with heap := h, toks := tk })
    (done : ∀ (c : σ) (u : Str → Option Value) (h : Heap) (tk : Nat), P all c → Fr h₀ env.locals h (kstB (fun z => if stored.contains z then u z else m₀ z) (ps c)) → News h₀ env.locals h news → Q .next { s with heap := h, toks := tk }) :
    ∀ (vs : List Value) (ds pre : List Dat) (c : σ) (m : Str → Option Value), DatAll news vs ds → all = pre ++ ds → (∀ p ∈ ps c, m p.1 = some p.2) → (∀ z, (∀ p ∈ ps c, z ≠ p.1) → stored.contains z = false → m z = m₀ z) → P pre c →
      ItemsRest prog w A E h₀ env target body Q s [(I, "list_iterator")] [(ax, lo)] (vs.map .val) m news := by
  intro vs
  induction vs with
  | nil =>
    intro ds pre c m hd hall hk hr hp
    cases hd
    rw [List.append_nil] at hall
    subst hall
    exact ItemsRest.zero fun h tk F N => done c m h tk hp (ksw_fr hk hr F) N
  | cons v vs ih =>
    intro ds pre c m hd hall hk hr hp
    cases hd with
    | cons hv hd =>
      rename_i d ds
      refine ItemsRest.val fun h tk F => ?_
      refine AllObj.cons fun oI _ => AllObj.nil fun N => ?_
      have N' : News h₀ env.locals h ((I, oI) :: news) := N
      refine wpAny_mono (turn c pre d ds v m h tk oI hall hv hp (ksw_fr hk hr F) N') (fun _ s₂ h₂ => wpAny_mono h₂ (fun f s₃ p => ?_) fun _ _ e => e) fun _ _ e => e
      have fin : PEnd h₀ env.locals ps stored m₀ (P (pre ++ [d])) ((I, oI) :: news) { s with heap := h, toks := tk } s₃ →
          UnrEndW h₀ env.locals { s with heap := h, toks := tk } [(I, oI)] (fun m' n' => SubL [(ax, lo)] n' ∧ ItemsRest prog w A E h₀ env target body Q s [(I, "list_iterator")] [(ax, lo)] (vs.map .val) m' n') s₃ := by
        rintro ⟨c', h', tk', m', news', rfl, F', N', hn, hk', hr', hp'⟩
        exact UnrEndW.intro F' N' news (subL_of fun p hp => hn p (by simp at hp; simp [hp])) (subL_of fun p hp => hn p (by simp [hp])) (offW_of hI) ⟨⟨hm, trivial⟩, ih ds (pre ++ [d]) c' m' hd (by rw [hall]; simp) hk' hr' hp'⟩
      cases f with
      | ret v => exact p
      | brk => exact p
      | next => exact fin p
      | cont => exact fin p
theorem pair_loop {σ : Type} {ax : Addr} {ys : List Value} {nn : Nat} {m₀ : Str → Option Value} {news : List (Addr × Obj)} {ds : List Dat} (ps : σ → List (Str × Value)) (stored : List Str) (P : List Dat → σ → Prop) (c₀ : σ)
    (hh : A.handled = none) (F : Fr h₀ env.locals s.heap m₀) (N : News h₀ env.locals s.heap news) (hm : (ax, PySem.W.listOf ys.toArray nn) ∈ news) (hd : DatAll news ys ds) (hk : ∀ p ∈ ps c₀, m₀ p.1 = some p.2) (hp : P [] c₀)
    (turn : ∀ (c : σ) (pre : List Dat) (d : Dat) (post : List Dat) (v : Value) (u : Str → Option Value) (h : Heap) (tk : Nat) (I : Addr) (oI : Obj), (∀ p ∈ news, p.1 < I) → ds = pre ++ d :: post → DatIn news v d → P pre c → Fr h₀ env.locals h (kstB (fun z => if stored.contains z then u z else m₀ z) (ps c)) → News h₀ env.locals h ((I, oI) :: news) →
      wpAny (model prog w) A (assign target env v) (fun _ s₂ => wpAny (model prog w) A (execs body env) (PPost h₀ env.locals ps stored m₀ (P (pre ++ [d])) ((I, oI) :: news) { s with heap := h, toks := tk } Q) E s₂) E { s with heap := h, toks := tk })
    (done : ∀ (c : σ) (u : Str → Option Value) (h : Heap) (tk : Nat), P ds c → Fr h₀ env.locals h (kstB (fun z => if stored.contains z then u z else m₀ z) (ps c)) → News h₀ env.locals h news → Q .next { s with heap := h, toks := tk }) :
    wpAny (model prog w) A (pyIter (.ref ax)) (fun it s₂ => TurnsAt prog w A h₀ env target body Q E it s₂) E s := by
  refine iter_listTurns (lo := PySem.W.listOf ys.toArray nn) (vs := ys) hh F N hm rfl rfl fun I hI => ?_
  exact pair_rest ps stored P hm hI (fun c pre d post v u h tk oI => turn c pre d post v u h tk I oI hI) done ys ds [] c₀ m₀ hd rfl hk (fun _ _ _ => rfl) hp
end
end Mine

namespace Mine
open PySem PySem.W PyProof.Rows
local macro_rules | `(tactic| walk_at "call ref") => `(tactic| (k_here; (with_reducible show wpAny _ _ (call (Value.ref 35) _) _ _ _); (refine wpAny_call ?_); k_dflt (refine' code_def ?k1 ?k2 ?k3 ?k4 ?k5 ?kA ?kF ?kK ?k6 ?k7 ?k8 ?k9 ?kB ?_ ?c2 ?c3 ?c4 ?c5; (case kA => exact rfl); (case kF => exact rfl); (case kK => first | exact rfl | assumption); (case k1 => k_asm); (case k2 => k_asm); (case k3 => k_asm); (case k4 => k_asm); (case k5 => k_asm); (case k6 => k_is); (case k7 => k_is); (case k8 => ktr_room); (case k9 => exact BindsTo.of_eq rfl); (case c5 => decide); (case kB => exact locs rfl); (case c2 => exact rfl); (case c3 => exact rfl); (case c4 => exact rfl); k_whole; intro g' L' h' FG' F' N' B' X' T'; (try dsimp only); (try k_lift B'); (try k_fold))))
local macro_rules | `(tactic| walk_at "call ref") => `(tactic| (k_here; (with_reducible show wpAny _ _ (call (Value.ref 54) _) _ _ _); k_dflt (refine' MClaim.use (ctr_expo _ _ _) ?k1 ?k2 ?k3 ?k4 ?k5 ?kK ?kp ?kd ?ku ?_; (case k1 => k_asm); (case k2 => k_asm); (case k3 => k_asm); (case k4 => k_asm); (case k5 => k_asm); (case kK => first | exact rfl | assumption); (case kp => omega); (case kd => ktr_room); (case ku => ktr_units)); intro t9 h9 tk9 F9 N9; (try dsimp only); (try k_fold)))
theorem tail_item {prog : Program} {w : World} {A : Around} {E : Value → Shared → Prop} {s : Shared} {value slice : PySem.Expr} {h₀ : Heap} {L l : Addr} {news : List (Addr × Obj)} {a b c d : Str} {ta tb tc td : Tok} {n : Nat} {k : Int} {u : Tok} {Q : Value → Shared → Prop}
    (N : News h₀ L s.heap news) (hm : (l, PySem.W.listOf #[.str a ta, .str b tb, .str c tc, .str d td] n) ∈ news) (h0 : 0 ≤ k) (h1 : k < 4) (ha : tailOf a) (hb : tailOf b) (hc : tailOf c) (hd : tailOf d) (h : ∀ T t, tailOf T → T.length ≤ 5 → Q (.str T t) s)
    (hs : subscripted slice false (.ref l) (.int k u) = operate [.ref l, .int k u] (getItem (.ref l) (.int k u)) := by with_unfolding_all rfl) :
    wpAny (model prog w) A (subscriptTail value slice (.ref l) (.int k u)) Q E s := by
  have hl : s.heap.IsList l #[.str a ta, .str b tb, .str c tc, .str d td] := ⟨_, (N _ hm).1, rfl, n, rfl⟩
  have len : ∀ T, tailOf T → T.length ≤ 5 := fun T hT => by
    rw [← tl_len]
    rcases hT with e | e | e | e <;> rw [e] <;> decide
  have hk : k = 0 ∨ k = 1 ∨ k = 2 ∨ k = 3 := by omega
  rcases hk with rfl | rfl | rfl | rfl
  · exact tail_any hl.typeIs slot_list_getitem.lookup (wpAny_getItem_list hl (by decide) (by decide) rfl (h _ _ ha (len _ ha))) hs
  · exact tail_any hl.typeIs slot_list_getitem.lookup (wpAny_getItem_list hl (by decide) (by decide) rfl (h _ _ hb (len _ hb))) hs
  · exact tail_any hl.typeIs slot_list_getitem.lookup (wpAny_getItem_list hl (by decide) (by decide) rfl (h _ _ hc (len _ hc))) hs
  · exact tail_any hl.typeIs slot_list_getitem.lookup (wpAny_getItem_list hl (by decide) (by decide) rfl (h _ _ hd (len _ hd))) hs
local macro_rules | `(tactic| walk_at "subscriptTail") => `(tactic| (k_here; (with_reducible show wpAny _ _ (subscriptTail _ _ (Value.ref _) (Value.int _ _)) _ _ _); (with_reducible rename News _ _ _ _ => N8); k_dflt (refine' tail_item N8 ?k1 ?k2 ?k3 tails_ok.1 tails_ok.2.1 tails_ok.2.2.1 tails_ok.2.2.2 ?_; (case k1 => k_memK); (case k2 => exact Int.fmod_nonneg_of_pos _ (by decide)); (case k3 => exact Int.fmod_lt_of_pos _ (by decide))); intro T8 t8 hT8 hT8l))
theorem ctr_strip2 (w : World) (nm T : Str) (R : Wd) (t : Tok) (h : nm = nameR R) (hT : tailOf T) : MClaim w 21 1 ((nm ++ T).length ≤ 1000) [.str (nm ++ T) t] (fun t => .str (topR R) t) := by
  have e : topR R = strip (nm ++ T) := by rw [h, strip_name R hT]
  rw [e]
  exact ctr_strip w (nm ++ T) t
local macro_rules | `(tactic| walk_at "call ref") => `(tactic| (k_here; (with_reducible show wpAny _ _ (call (Value.ref 21) _) _ _ _); k_dflt (refine' MClaim.use (ctr_strip2 _ _ _ _ _ ?h1 ?h2) ?k1 ?k2 ?k3 ?k4 ?k5 ?kK ?kp ?kd ?ku ?_; (case k1 => k_asm); (case k2 => k_asm); (case k3 => k_asm); (case k4 => k_asm); (case k5 => k_asm); (case kK => first | exact rfl | assumption); (case h1 => with_reducible assumption); (case h2 => with_reducible assumption); (case kp => (simp only [Str.length_append]; omega)); (case kd => ktr_room); (case ku => ktr_units)); intro t9 h9 tk9 F9 N9; (try dsimp only); (try k_fold)))
theorem top_small {r : Wd} {n : Nat} (h : Bnd (512 * n) r) (hn : n ≤ 21) : (topR r).length ≤ 6 := top_len (n := 11264) (by decide) r (h.mono (by omega))
theorem expo_small {r : Wd} {n : Nat} (h : Bnd (512 * n) r) (hn : n ≤ 21) : (expo (topR r)).natAbs ≤ 10752 := expo_top r (h.mono (by omega))
theorem sg_len (b : Bool) : (sg b).length = 1 := by rw [← tl_len, sg_tl]; rfl
local macro_rules | `(tactic| walk_at "call ref") => `(tactic| (k_here; (with_reducible show wpAny _ _ (call (Value.ref 47) _) _ _ _); k_dflt (refine' MClaim.use (ctr_part _ _ _ _ _) ?k1 ?k2 ?k3 ?k4 ?k5 ?kK ?kp ?kd ?ku ?_; (case k1 => k_asm); (case k2 => k_asm); (case k3 => k_asm); (case k4 => k_asm); (case k5 => k_asm); (case kK => first | exact rfl | assumption); (case kp => (refine ⟨by rw [sg_len]; decide, ?_, ?_⟩ <;> first | assumption | omega)); (case kd => ktr_room); (case ku => ktr_units)); intro t9 h9 tk9 F9 N9; (try dsimp only); (try k_fold)))
theorem size_part {x : Str} {b : Bool} {e : Int} (hx : x.length ≤ 1000) (he : e.natAbs < 65536) : x.length + (partS (sg b) e).length ≤ sizeLine := by
  have := part_len b he
  rw [PySem.sizeLine_eq]; omega
theorem dot_len : (Str.ofString ".").length = 1 := by decide +kernel
local macro_rules | `(tactic| size_fits) => `(tactic| first | ((try simp only [Str.length_append]); (rw [PySem.sizeLine_eq]); omega) | (refine size_part ?_ ?_; ((try simp only [Str.length_append, dot_len]); omega); omega))
def LWord (pre : List Dat) (name : Str) (turn : Int) : Prop :=
  name = nameR (Rd pre) ∧ turn = (pre.length : Int) ∧ Bnd (512 * pre.length) (Rd pre) ∧ (Rd pre).length ≤ pre.length ∧ name.length ≤ 1 + 7 * pre.length
theorem Rd_snoc (pre : List Dat) (b : Bool) (e : Int) : Rd (pre ++ [Dat.tuple [Dat.str (sg b), Dat.int e]]) = red1 (Rd pre) b e := by
  unfold Rd
  rw [List.map_append, List.map_cons, List.map_nil, redS_snoc, unD_is]
theorem word_next {pre : List Dat} {b : Bool} {e : Int} {cn N : Str} {ci : Int} (hW : LWord pre cn ci) (hpre : pre.length ≤ 21) (he : e.natAbs ≤ 512) (hN : N = nameR (red1 (Rd pre) b e)) : LWord (pre ++ [Dat.tuple [Dat.str (sg b), Dat.int e]]) N (ci + 1) := by
  have hl : (pre ++ [Dat.tuple [Dat.str (sg b), Dat.int e]]).length = pre.length + 1 := by simp
  have hB : Bnd (512 * (pre.length + 1)) (red1 (Rd pre) b e) := (hW.2.2.1.red1 he).mono (by omega)
  have hL : (red1 (Rd pre) b e).length ≤ pre.length + 1 := Nat.le_trans red1_len (by have := hW.2.2.2.1; omega)
  refine ⟨by rw [Rd_snoc]; exact hN, by rw [hl, hW.2.1]; omega, by rw [hl, Rd_snoc]; exact hB, by rw [hl, Rd_snoc]; exact hL, ?_⟩
  have := name_len (n := 11264) (by decide) (red1 (Rd pre) b e) (hB.mono (by omega))
  rw [hN, hl]
  omega
section
variable {pre : List Dat} {b : Bool} {e : Int} {cn : Str} {ci : Int}
theorem lw_yes (hW : LWord pre cn ci) (hpre : pre.length ≤ 21) (he : e.natAbs ≤ 512) (h : (Txt.slice (topR (Rd pre)) none (some 1) == sg b) = true) (hz : e + expo (topR (Rd pre)) ≠ 0) :
    LWord (pre ++ [Dat.tuple [Dat.str (sg b), Dat.int e]]) (Txt.slice cn none (some ((cn.length : Int) - ((topR (Rd pre)).length : Int) - 1)) ++ Str.ofString "." ++ partS (sg b) (e + expo (topR (Rd pre)))) (ci + 1) :=
  word_next hW hpre he (by rw [hW.1]; exact step_yes h hz)
theorem lw_gone (hW : LWord pre cn ci) (hpre : pre.length ≤ 21) (he : e.natAbs ≤ 512) (h : (Txt.slice (topR (Rd pre)) none (some 1) == sg b) = true) (hz : e + expo (topR (Rd pre)) = 0) :
    LWord (pre ++ [Dat.tuple [Dat.str (sg b), Dat.int e]]) (Txt.slice cn none (some ((cn.length : Int) - ((topR (Rd pre)).length : Int) - 1))) (ci + 1) :=
  word_next hW hpre he (by rw [hW.1]; exact step_gone h hz)
theorem lw_new (hW : LWord pre cn ci) (hpre : pre.length ≤ 21) (he : e.natAbs ≤ 512) (h : (Txt.slice (topR (Rd pre)) none (some 1) == sg b) = false) (hz : e ≠ 0) :
    LWord (pre ++ [Dat.tuple [Dat.str (sg b), Dat.int e]]) (cn ++ Str.ofString "." ++ partS (sg b) e) (ci + 1) :=
  word_next hW hpre he (by rw [hW.1]; exact step_new h hz)
theorem lw_same (hW : LWord pre cn ci) (hpre : pre.length ≤ 21) (he : e.natAbs ≤ 512) (h : (Txt.slice (topR (Rd pre)) none (some 1) == sg b) = false) (hz : e = 0) :
    LWord (pre ++ [Dat.tuple [Dat.str (sg b), Dat.int e]]) cn (ci + 1) :=
  word_next hW hpre he (by rw [hW.1]; exact step_same h hz)
end
abbrev psL (c : Str × Tok × Int × Tok) : List (Str × Value) := [(Str.ofString "name", .str c.1 c.2.1), (Str.ofString "turn", .int c.2.2.1 c.2.2.2)]
abbrev stL : List Str := [Str.ofString "sign", Str.ofString "e", Str.ofString "top", Str.ofString "total"]
theorem left_start : LWord [] (Str.ofString "C") 0 := ⟨rfl, rfl, (fun _ h => nomatch h), Nat.le_refl _, by decide +kernel⟩
set_option maxRecDepth 100000 in
set_option maxHeartbeats 8000000 in
theorem ctr_left (w : World) (ds : List Dat) : LClaim w 61 3 (Shape ds ∧ ds.length ≤ 22) ds (fun D => [.ref D]) (fun t => .str (nameR (Rd ds)) t) := by
  unfold LClaim
  k_with_none
  w_top off
  k_fill
  dsimp only [CbRet]; intros; rename_i hret
  (with_reducible rename _ ∧ _ => hpre; obtain ⟨hShape, hLen22⟩ := hpre)
  (with_reducible rename DatAll _ _ _ => hAllD)
  refine wpAny_call ?_
  k_dflt cell_enter
  k_steps
  (rename Fr _ _ _ _ => lF)
  (with_unfolding_all refine' For_turns lF ?_)
  k_steps
  (rename Fr _ _ _ _ => lF1)
  (rename News _ _ _ _ => lN1)
  (with_unfolding_all refine' pair_loop (ds := ds) psL stL (fun pre c => LWord pre c.1 c.2.2.1) (_, _, _, _) (by rfl) lF1 lN1 (by k_memK) ?hd ?hk ?hp ?turn ?done)
  (case hd => exact DatAll.mono (fun p hp => by (repeat (first | exact hp | apply List.mem_cons_of_mem))) hAllD)
  (case hk => kst_all)
  (case hp => exact left_start)
  (case turn =>
    intro c pre d post v u h tk I oI hI hEq hDat hP F9 N9
    obtain ⟨cn, ct, ci, cu⟩ := c
    (dsimp only [kstB, psL, stL] at F9)
    obtain ⟨b, e, rfl, he⟩ := hShape d (by rw [hEq]; simp)
    cases hDat with
    | tuple hT hA =>
    cases hA with
    | cons h1 hA =>
    cases hA with
    | cons h2 hA =>
    cases hA
    cases h1
    cases h2
    have hT' := List.mem_cons_of_mem (I, oI) hT
    have hpre : pre.length ≤ 21 := by
      have := congrArg List.length hEq
      simp only [List.length_append, List.length_cons] at this
      omega
    have hP' : LWord pre cn ci := hP
    have hW : LWord pre cn ci := hP
    obtain ⟨w1, w2, w3, w4, w5⟩ := hP'
    clear hP
    have w6 := top_small w3 hpre
    have w7 := expo_small w3 hpre
    k_steps
    all_goals (
      dsimp only [PPost]
      (rename Fr _ _ _ _ => lF2)
      (rename News _ _ _ _ => lN2)
      first
        | (have hz := lw_yes hW hpre he (by with_reducible assumption) (by with_reducible assumption); refine p_end (⟨_, _, _, _⟩ : Str × Tok × Int × Tok) lF2 lN2 (by kd_inAll) (by kst_all) (by ksw_same) hz)
        | (have hz := lw_gone hW hpre he (by with_reducible assumption) (by with_reducible assumption); refine p_end (⟨_, _, _, _⟩ : Str × Tok × Int × Tok) lF2 lN2 (by kd_inAll) (by kst_all) (by ksw_same) hz)
        | (have hz := lw_new hW hpre he (by with_reducible assumption) (by with_reducible assumption); refine p_end (⟨_, _, _, _⟩ : Str × Tok × Int × Tok) lF2 lN2 (by kd_inAll) (by kst_all) (by ksw_same) hz)
        | (have hz := lw_same hW hpre he (by with_reducible assumption) (by with_reducible assumption); refine p_end (⟨_, _, _, _⟩ : Str × Tok × Int × Tok) lF2 lN2 (by kd_inAll) (by kst_all) (by ksw_same) hz)))
  (case done =>
    intro c u h tk hP F9 N9
    obtain ⟨cn, ct, ci, cu⟩ := c
    (dsimp only [kstB, psL, stL] at F9)
    have hW : LWord ds cn ci := hP
    clear hP
    k_steps
    refine' cb_retS hret ?e1 ?e2 ?e3
    (case e2 => k_asm)
    (case e3 => first | k_asm | (refine' cb_drop ?cbN ?cbS; (case cbN => assumption); (case cbS => kcj_all)))
    (case e1 => exact hW.1))
end Mine

namespace Mine
open PySem PySem.W PyProof.Rows
abbrev T1 := Int × Tok × Int × Tok × Int × Tok × Int × Tok
abbrev psM (c : T1) : List (Str × Value) := [(Str.ofString "p", .int c.1 c.2.1), (Str.ofString "q", .int c.2.2.1 c.2.2.2.1), (Str.ofString "r", .int c.2.2.2.2.1 c.2.2.2.2.2.1), (Str.ofString "s", .int c.2.2.2.2.2.2.1 c.2.2.2.2.2.2.2)]
abbrev stM : List Str := [Str.ofString "sign", Str.ofString "e"]
def MWord (m : Int) (pre : List Dat) (p q r s : Int) : Prop := (p, q, r, s) = mulS m (pre.map unD)
theorem m_start (m : Int) : MWord m [] 1 0 0 1 := rfl
theorem unD_snoc (pre : List Dat) (b : Bool) (e : Int) : (pre ++ [Dat.tuple [Dat.str (sg b), Dat.int e]]).map unD = pre.map unD ++ [(b, e)] := by
  rw [List.map_append, List.map_cons, List.map_nil, unD_is]
section
variable {m : Int} {pre : List Dat} {e p q r s : Int}
theorem m_a (h : MWord m pre p q r s) : MWord m (pre ++ [Dat.tuple [Dat.str (sg false), Dat.int e]]) p (q + m * e * p) r (s + m * e * r) := by
  unfold MWord at h ⊢
  rw [unD_snoc, mulS_snoc, ← h]
  rfl
theorem m_b (h : MWord m pre p q r s) : MWord m (pre ++ [Dat.tuple [Dat.str (sg true), Dat.int e]]) (p + m * e * q) q (r + m * e * s) s := by
  unfold MWord at h ⊢
  rw [unD_snoc, mulS_snoc, ← h]
  rfl
end
theorem me_small {m e : Int} (h1 : 2 ≤ m) (h2 : m ≤ 8) (he : e.natAbs ≤ 11264) : (m * e).natAbs ≤ 90112 := by
  rw [Int.natAbs_mul]
  have : m.natAbs * e.natAbs ≤ 8 * 11264 := Nat.mul_le_mul (by omega) he
  omega
theorem sg_a : (sg false == Str.ofString "a") = true := by decide +kernel
theorem sg_b : (sg true == Str.ofString "a") = false := by decide +kernel
abbrev T2 := Int × Tok × Int × Tok × Int × Tok × Int × Tok × Str × Tok
abbrev psT (c : T2) : List (Str × Value) := [(Str.ofString "p", .int c.1 c.2.1), (Str.ofString "q", .int c.2.2.1 c.2.2.2.1), (Str.ofString "r", .int c.2.2.2.2.1 c.2.2.2.2.2.1), (Str.ofString "s", .int c.2.2.2.2.2.2.1 c.2.2.2.2.2.2.2.1), (Str.ofString "name", .str c.2.2.2.2.2.2.2.2.1 c.2.2.2.2.2.2.2.2.2)]
abbrev stT : List Str := [Str.ofString "_", Str.ofString "e"]
def TWord (m : Int) (W : Wd) (pre : List Dat) (p q r s : Int) (name : Str) : Prop := ∃ done rest, W = done ++ rest ∧ done.length = pre.length ∧ (p, q, r, s) = matL m rest ∧ name = nameR done.reverse
theorem t_start {m : Int} {ds : List Dat} {p q r s : Int} (h : MWord m ds p q r s) : TWord m (Rd ds).reverse [] p q r s (Str.ofString "C") :=
  ⟨[], (Rd ds).reverse, rfl, rfl, by rw [h, mulS_red m _ _ rfl], rfl⟩
section
variable {m : Int} {W done l : Wd} {pre : List Dat} {d : Dat} {f p q r s : Int} {name : Str}
theorem t_a (h1 : W = done ++ (false, f) :: l) (h2 : done.length = pre.length) (h4 : name = nameR done.reverse) (hf : f.natAbs ≤ 11264) (h3 : (p, q, r, s) = matL m l) : TWord m W (pre ++ [d]) p q r s (name ++ Str.ofString ".a" ++ writ f) := by
  refine ⟨done ++ [(false, f)], l, by rw [h1, List.append_assoc]; rfl, by simp [h2], h3, ?_⟩
  rw [told_a (by omega), h4, List.reverse_append]
  rfl
theorem t_b (h1 : W = done ++ (true, f) :: l) (h2 : done.length = pre.length) (h4 : name = nameR done.reverse) (hf : f.natAbs ≤ 11264) (h3 : (p, q, r, s) = matL m l) : TWord m W (pre ++ [d]) p q r s (name ++ Str.ofString ".b" ++ writ f) := by
  refine ⟨done ++ [(true, f)], l, by rw [h1, List.append_assoc]; rfl, by simp [h2], h3, ?_⟩
  rw [told_b (by omega), h4, List.reverse_append]
  rfl
theorem writ_len {f : Int} (hf : f.natAbs < 65536) : (writ f).length ≤ 5 := by
  rw [← tl_len, writ_tl hf]
  have h1 : (minL f).length ≤ 1 := by unfold minL; split <;> simp
  have h2 : (hexL f.natAbs).length ≤ 4 := by rw [← hexB_tl, tl_len]; exact strH_len hf
  simp only [List.length_append]
  omega
theorem size_writ {x : Str} (hx : x.length ≤ 1000) (hf : f.natAbs ≤ 11264) : x.length + (writ f).length ≤ sizeLine := by
  have := writ_len (f := f) (by omega)
  rw [PySem.sizeLine_eq]; omega
end
theorem alt_right : ∀ {a b : Wd}, Alt (a ++ b) → Alt b
  | [], _, h => h
  | _ :: a, _, h => alt_right (a := a) h.tail
/-- what holds of the rest -/
theorem rest_ok {ds : List Dat} {done rest : Wd} (hs : Shape ds) (hl : ds.length ≤ 22) (h : (Rd ds).reverse = done ++ rest) : Alt rest ∧ Bnd 11264 rest ∧ Bnd 11264 done ∧ rest.length ≤ 22 ∧ done.length ≤ 22 ∧ (done ++ rest).length ≤ ds.length := by
  have hb : ∀ x ∈ ds.map unD, x.2.natAbs ≤ 512 := by
    intro x hx
    obtain ⟨d, hd, rfl⟩ := List.mem_map.mp hx
    obtain ⟨b, e, rfl, he⟩ := hs d hd
    rw [unD_is]
    exact he
  obtain ⟨h1, h2, h3⟩ := redS_ok (ds.map unD) hb
  rw [List.length_map] at h2 h3
  have hlen : (done ++ rest).length = (Rd ds).length := by rw [← h, List.length_reverse]
  have hB : Bnd 11264 (done ++ rest) := by
    intro x hx
    rw [← h] at hx
    exact (h2.mono (by omega)) x (List.mem_reverse.mp hx)
  have hA : Alt (done ++ rest) := by rw [← h]; exact h1.reverse
  have hle : (Rd ds).length ≤ ds.length := h3
  have hll : (done ++ rest).length = done.length + rest.length := List.length_append
  refine ⟨alt_right hA, fun x hx => hB x (by simp [hx]), fun x hx => hB x (by simp [hx]), by omega, by omega, by omega⟩
theorem done_name {ds : List Dat} {done : Wd} (h : (Rd ds).reverse = done ++ []) : nameR done.reverse = nameR (Rd ds) := by
  rw [List.append_nil] at h
  rw [← h, List.reverse_reverse]
theorem done_len {n : Nat} {done : Wd} (hb : Bnd 11264 done) (hl : done.length ≤ n) (hn : n ≤ 22) : (nameR done.reverse).length ≤ 155 := by
  have h := name_len (n := 11264) (by decide) done.reverse fun x hx => hb x (List.mem_reverse.mp hx)
  rw [List.length_reverse] at h
  omega
theorem t_done {ds : List Dat} {m p q r s : Int} {name : Str} (hs : Shape ds) (hl : ds.length ≤ 22) (h : TWord m (Rd ds).reverse ds p q r s name) : name = nameR (Rd ds) := by
  obtain ⟨done, rest, h1, h2, _, h4⟩ := h
  have h5 := rest_ok hs hl h1
  have h6 : rest = [] := by
    have h7 := h5.2.2.2.2.2
    rw [List.length_append] at h7
    exact List.length_eq_zero_iff.mp (by omega)
  subst h6
  rw [h4, done_name h1]
theorem no_break {m : Int} {x : Bool × Int} {l : Wd} {p q r s : Int} (hm : 2 ≤ m) (h : Alt (x :: l)) (hM : (p, q, r, s) = matL m (x :: l)) (hc : (p == 1 && (q == 0 && (r == 0 && s == 1))) = true) : False := by
  simp only [Bool.and_eq_true, beq_iff_eq] at hc
  obtain ⟨rfl, rfl, rfl, rfl⟩ := hc
  exact List.cons_ne_nil _ _ (one_nil hm h hM.symm)
theorem fdiv_to {prog : Program} {w : World} {A : Around} {E : Value → Shared → Prop} {s : Shared} {t u : Tok} {Q : Value → Shared → Prop} {a b f : Int} (hb : b ≠ 0) (hl : b.natAbs.log2 < 9000) (he : a.fdiv b = f) (h : Q (.int f s.toks) { s with toks := s.toks + 1 }) :
    wpAny (model prog w) A (binaryOp .FloorDiv (.int a t) (.int b u)) Q E s := by
  subst he
  exact floordiv_int hb h (Or.inl (PyProof.noPylong_of_log2 hl))
local macro_rules | `(tactic| walk_at "binaryOp FloorDiv int int") => `(tactic| (k_here; (with_reducible refine fdiv_to (by with_reducible assumption) (by with_reducible assumption) (by with_reducible assumption) ?_)))
local macro_rules | `(tactic| walk_at "call builtin:abs") => `(tactic| (with_reducible (refine call_absN ?_; intro _ _)))
local macro_rules | `(tactic| walk_at "exec For Name Name cons nil") => `(tactic| (k_here; (rename Fr _ _ _ _ => lF'); (with_unfolding_all refine' For_turns lF' ?_; k_whole)))
local macro_rules | `(tactic| walk_at "call ref") => `(tactic| (k_here; (with_reducible show wpAny _ _ (call (Value.ref 68) _) _ _ _); k_dflt (refine' MClaim.use (ctr_written _ _ _) ?k1 ?k2 ?k3 ?k4 ?k5 ?kK ?kp ?kd ?ku ?_; (case k1 => k_asm); (case k2 => k_asm); (case k3 => k_asm); (case k4 => k_asm); (case k5 => k_asm); (case kK => first | exact rfl | assumption); (case kp => trivial); (case kd => ktr_room); (case ku => ktr_units)); intro t9 h9 tk9 F9 N9; (try dsimp only); (try k_fold)))
local macro_rules | `(tactic| ke_room) => `(tactic| ktr_units)
theorem dota_len : (Str.ofString ".a").length = 2 := by decide +kernel
theorem dotb_len : (Str.ofString ".b").length = 2 := by decide +kernel
local macro_rules | `(tactic| size_fits) => `(tactic| first | ((try simp only [Str.length_append]); (rw [PySem.sizeLine_eq]); omega) | (refine size_writ ?_ ?_; ((try simp only [Str.length_append, dota_len, dotb_len]); omega); assumption))
set_option maxRecDepth 100000 in
set_option maxHeartbeats 8000000 in
theorem ctr_told (w : World) (ds : List Dat) (m : Int) (mt : Tok) : LClaim w 75 3 ((Shape ds ∧ ds.length ≤ 22) ∧ 2 ≤ m ∧ m ≤ 8) ds (fun D => [.ref D, .int m mt]) (fun t => .str (nameR (Rd ds)) t) := by
  unfold LClaim
  k_with_none
  w_top off
  k_fill
  dsimp only [CbRet]; intros; rename_i hret
  (with_reducible rename _ ∧ _ => hpre; obtain ⟨⟨hShape, hLen22⟩, hm1, hm2⟩ := hpre)
  (with_reducible rename DatAll _ _ _ => hAllD)
  refine wpAny_call ?_
  k_dflt cell_enter
  k_steps
  (rename Fr _ _ _ _ => lF)
  (with_unfolding_all refine' For_turns lF ?_)
  k_steps
  (rename Fr _ _ _ _ => lF1)
  (rename News _ _ _ _ => lN1)
  (with_unfolding_all refine' pair_loop (ds := ds) psM stM (fun pre c => MWord m pre c.1 c.2.2.1 c.2.2.2.2.1 c.2.2.2.2.2.2.1) (_, _, _, _, _, _, _, _) (by rfl) lF1 lN1 (by k_memK) ?hd ?hk ?hp ?turn ?done)
  (case hd => exact DatAll.mono (fun p hp => by (repeat (first | exact hp | apply List.mem_cons_of_mem))) hAllD)
  (case hk => kst_all)
  (case hp => exact m_start m)
  (case turn =>
    intro c pre d post v u h tk I oI hI hEq hDat hP F9 N9
    obtain ⟨p, pt, q, qt, r, rt, s, st⟩ := c
    (dsimp only [kstB, psM, stM] at F9)
    obtain ⟨b, e, rfl, he⟩ := hShape d (by rw [hEq]; simp)
    cases hDat with
    | tuple hT hA =>
    cases hA with
    | cons h1 hA =>
    cases hA with
    | cons h2 hA =>
    cases hA
    cases h1
    cases h2
    have hT' := List.mem_cons_of_mem (I, oI) hT
    have hW : MWord m pre p q r s := hP
    clear hP
    have hme := me_small hm1 hm2 (e := e) (by omega)
    cases b
    · k_steps
      dsimp only [PPost]
      (rename Fr _ _ _ _ => lF2)
      (rename News _ _ _ _ => lN2)
      have hz := m_a (e := e) hW
      refine p_end (⟨_, _, _, _, _, _, _, _⟩ : T1) lF2 lN2 (by kd_inAll) (by kst_all) (by ksw_same) hz
    · k_steps
      dsimp only [PPost]
      (rename Fr _ _ _ _ => lF2)
      (rename News _ _ _ _ => lN2)
      have hz := m_b (e := e) hW
      refine p_end (⟨_, _, _, _, _, _, _, _⟩ : T1) lF2 lN2 (by kd_inAll) (by kst_all) (by ksw_same) hz)
  (case done =>
    intro c u h tk hP F9 N9
    obtain ⟨p, pt, q, qt, r, rt, s, st⟩ := c
    (dsimp only [kstB, psM, stM] at F9)
    have hW : MWord m ds p q r s := hP
    clear hP
    k_steps
    (rename Fr _ _ _ _ => lF1)
    (rename News _ _ _ _ => lN1)
    (with_unfolding_all refine' pair_loop (ds := ds) psT stT (fun pre c => TWord m (Rd ds).reverse pre c.1 c.2.2.1 c.2.2.2.2.1 c.2.2.2.2.2.2.1 c.2.2.2.2.2.2.2.2.1) (_, _, _, _, _, _, _, _, _, _) (by rfl) lF1 lN1 (by k_memK) ?hd ?hk ?hp ?turn ?done)
    (case hd => exact DatAll.mono (fun p hp => by (repeat (first | exact hp | apply List.mem_cons_of_mem))) hAllD)
    (case hk => kst_all)
    (case hp => exact t_start hW)
    (case turn =>
      clear hW
      intro c pre d post v u2 h tk I oI hI hEq hDat hP F9 N9
      obtain ⟨p, pt, q, qt, r, rt, s, st, name, nt⟩ := c
      (dsimp only [kstB, psT, stT] at F9)
      obtain ⟨b, e, rfl, he⟩ := hShape d (by rw [hEq]; simp)
      cases hDat with
      | tuple hT hA =>
      have hT' := List.mem_cons_of_mem (I, oI) hT
      have hP' : TWord m (Rd ds).reverse pre p q r s name := hP
      clear hP
      obtain ⟨done, rest, w1, w2, w3, w4⟩ := hP'
      have w5 := rest_ok hShape hLen22 w1
      have w6 : name.length ≤ 155 := by rw [w4]; exact done_len w5.2.2.1 (Nat.le_refl _) w5.2.2.2.2.1
      cases rest with
      | nil =>
        have w7 : (p, q, r, s) = (1, 0, 0, 1) := w3
        simp only [Prod.mk.injEq] at w7
        obtain ⟨rfl, rfl, rfl, rfl⟩ := w7
        k_steps
        dsimp only
        dsimp only [PPost]
        k_steps
        refine' cb_retS hret ?e1 ?e2 ?e3
        (case e2 => k_asm)
        (case e3 => first | k_asm | (refine' cb_drop ?cbN ?cbS; (case cbN => assumption); (case cbS => kcj_all)))
        (case e1 => rw [w4]; exact done_name w1)
      | cons x l =>
        obtain ⟨b2, f⟩ := x
        have hf : f.natAbs ≤ 11264 := w5.2.1 (b2, f) (by simp)
        have hme := me_small hm1 hm2 hf
        have hbig := matL_big hm1 hm2 _ w5.2.1
        rw [← w3] at hbig
        cases b2
        · obtain ⟨o1, o2, o3, o4⟩ := off_a hm1 w5.1 w3.symm
          have o5 : 2 * m * s ≠ 0 := by
            refine Int.mul_ne_zero (by omega) o2
          have o6 := log_small hm1 hm2 w5.2.2.2.1 hbig.2.2.2
          k_steps
          all_goals first
            | (exfalso; exact no_break hm1 w5.1 w3 (by with_reducible assumption))
            | (dsimp only [PPost]
               (rename Fr _ _ _ _ => lF2)
               (rename News _ _ _ _ => lN2)
               have hz := t_a (d := Dat.tuple [Dat.str (sg b), Dat.int e]) w1 w2 w4 hf o4
               refine p_end (⟨_, _, _, _, _, _, _, _, _, _⟩ : T2) lF2 lN2 (by kd_inAll) (by kst_all) (by ksw_same) hz)
        · obtain ⟨o1, o2, o3, o4⟩ := off_b hm1 w5.1 w3.symm
          have o5 : 2 * m * p ≠ 0 := by
            refine Int.mul_ne_zero (by omega) o2
          have o6 := log_small hm1 hm2 w5.2.2.2.1 hbig.1
          k_steps
          all_goals first
            | (exfalso; exact no_break hm1 w5.1 w3 (by with_reducible assumption))
            | (dsimp only [PPost]
               (rename Fr _ _ _ _ => lF2)
               (rename News _ _ _ _ => lN2)
               have hz := t_b (d := Dat.tuple [Dat.str (sg b), Dat.int e]) w1 w2 w4 hf o4
               refine p_end (⟨_, _, _, _, _, _, _, _, _, _⟩ : T2) lF2 lN2 (by kd_inAll) (by kst_all) (by ksw_same) hz))
    (case done =>
      intro c u h tk hP F9 N9
      obtain ⟨p, pt, q, qt, r, rt, s, st, name, nt⟩ := c
      (dsimp only [kstB, psT, stT] at F9)
      have hP' : TWord m (Rd ds).reverse ds p q r s name := hP
      clear hP
      k_steps
      refine' cb_retS hret ?e1 ?e2 ?e3
      (case e2 => k_asm)
      (case e3 => first | k_asm | (refine' cb_drop ?cbN ?cbS; (case cbN => assumption); (case cbS => kcj_all)))
      (case e1 => exact t_done hShape hLen22 hP')))
end Mine

namespace Mine
open PySem PySem.W PyProof.Rows PySem.Calls
def MEl (old : List (Addr × Obj)) (d : Dat) (y : Value) (news' : List (Addr × Obj)) : Prop := ∃ p, news' = p :: old ∧ DatIn news' y d
section
variable {prog : Program} {w : World} {A : Around} {h₀ : Heap} {L : Addr} {m : Str → Option Value} {env : Env} {elt : Expr} {x : Str} {scope : Scope} {cl : List (Str × Addr)} {s : Shared} {S : List (Addr × Obj) → Prop} {Fin : List Value → List (Addr × Obj) → Prop} {news : List (Addr × Obj)}
theorem mcf_list {vs : List Value} {ns : List Int} (g : Int → Dat) (hi : IntsAre vs ns)
    (turn : ∀ (k : Int) (t : Tok) (I : Addr) (oI : Obj) (C : Addr) (oC : Obj) (D : Addr) (m₂ : Str → Option Value) (ys : List Value) (h : Heap) (tk : Nat) (tl : List (Addr × Obj)) (E' : Value → Shared → Prop), k ∈ ns → LCg.NsObj oC m₂ → m₂ x = some (.int k t) → Fr h₀ L h m → News h₀ L h ((I, oI) :: (C, oC) :: (D, LCg.lst ys) :: (tl ++ news)) → LCg.Off3 I C D (tl ++ news) → ((@Ne Nat I C) ∧ (@Ne Nat I D) ∧ (@Ne Nat C D)) →
      wpAny (model prog w) A (eval elt (compEnvC scope cl C env)) (LCg.CompEnd h₀ L m { s with heap := h, toks := tk } I oI C oC D (LCg.lst ys) S (fun y news' => MEl (tl ++ news) (g k) y news')) E' { s with heap := h, toks := tk })
    (fin : ∀ ys tl, DatAll (tl ++ news) ys (ns.map g) → Fin ys (tl ++ news)) : LCg.CompRest prog w A h₀ L m env elt x scope cl s S (fun i v => vs.toArray[i]? = some v) Fin vs.toArray.size 0 [] news := by
  have hlen : vs.toArray.size = ns.length := by rw [List.size_toArray]; exact hi.length
  have key : ∀ (j i : Nat) (ys : List Value) (tl : List (Addr × Obj)), i + j = ns.length → DatAll (tl ++ news) ys ((ns.take i).map g) → LCg.CompRest prog w A h₀ L m env elt x scope cl s S (fun i v => vs.toArray[i]? = some v) Fin j i ys (tl ++ news) := by
    intro j
    induction j with
    | zero =>
      intro i ys tl hij hy
      have e : i = ns.length := by omega
      subst e
      rw [List.take_length] at hy
      exact LCg.CompRest.zero (fin ys tl hy)
    | succ j ih =>
      intro i ys tl hij hy
      refine LCg.CompRest.succ ?_
      intro v I oI C oC D m₂ h tk E' hv hC hx F N off ne
      obtain ⟨k, t, e, hk⟩ := IntsAre.at hi i v (by simpa using hv)
      subst e
      refine wpAny_mono (turn k t I oI C oC D m₂ ys h tk tl E' (List.mem_of_getElem? hk) hC hx F N off ne) (fun y s₂ hq => ?_) fun _ _ e => e
      obtain ⟨h', tk', nw, e, F', N', off', hS, p, hn, hD⟩ := hq
      subst hn
      refine ⟨h', tk', p :: (tl ++ news), e, F', N', off', hS, ?_⟩
      have hy2 : DatAll (p :: tl ++ news) (ys ++ [y]) ((ns.take (i + 1)).map g) := by
        rw [List.take_add_one, hk]
        simp only [Option.toList, List.map_append, List.map_cons, List.map_nil]
        exact DatAll.append (hy.mono fun q hq => List.mem_cons_of_mem _ hq) (DatAll.one hD)
      exact ih (i + 1) (ys ++ [y]) (p :: tl) (by omega) hy2
  have h := key ns.length 0 [] [] (by omega) (by simp only [List.take_zero, List.map_nil]; exact .nil)
  rw [hlen]
  exact h
end
theorem comp_close {h₀ h' : Heap} {L I C D T : Addr} {m : Str → Option Value} {s₁ : Shared} {oI oC oD oT : Obj} {S : List (Addr × Obj) → Prop} {old : List (Addr × Obj)} {d : Dat} {tk : Nat}
    (F : Fr h₀ L h' m) (N : News h₀ L h' ((T, oT) :: (I, oI) :: (C, oC) :: (D, oD) :: old)) (hl : I < T ∧ C < T ∧ D < T ∧ AllLt T old) (off : LCg.Off3 I C D old) (hS : S ((T, oT) :: old)) (hd : DatIn ((T, oT) :: old) (.ref T) d) :
    LCg.CompEnd h₀ L m s₁ I oI C oC D oD S (fun y news' => MEl old d y news') (.ref T) { s₁ with heap := h', toks := tk } := by
  refine LCg.CompEnd.intro F N ((T, oT) :: old) ?_ ⟨⟨Ne.symm (Nat.ne_of_lt hl.1), Ne.symm (Nat.ne_of_lt hl.2.1), Ne.symm (Nat.ne_of_lt hl.2.2.1)⟩, off⟩ hS ⟨_, rfl, hd⟩
  intro p hp
  simp only [List.mem_cons] at hp ⊢
  rcases hp with h | h | h | h | h
  · exact .inr (.inl h)
  · exact .inr (.inr (.inl h))
  · exact .inr (.inr (.inr (.inl h)))
  · exact .inl h
  · exact .inr (.inr (.inr (.inr h)))
theorem src_mine {h₀ : Heap} {ax : Addr} {ws : List Value} {n : Nat} {p : Addr × Obj} {tl r : List (Addr × Obj)} : LCg.SrcAt h₀ ax ws.toArray (p :: (tl ++ (ax, PySem.W.listOf ws.toArray n) :: r)) :=
  .inr ⟨_, List.mem_cons_of_mem _ (List.mem_append.mpr (.inr (List.mem_cons_self ..))), rfl, _, rfl⟩
theorem three_in (tl news : List (Addr × Obj)) (a b c : Addr × Obj) : tl ++ a :: b :: c :: news = (tl ++ [a, b, c]) ++ news := by simp
def PClaim (w : World) (f : Addr) (d : Nat) (ns : List Int) (out : List Dat) : Prop :=
  ∀ (mean : ExcName → Option Value) (mg mb : Str → Option Value) (l : Addr) (vs : List Value) (news : List (Addr × Obj)) (dp un : Nat) (gd : Option (List Code)) (cn : Str) (cs : Scope) (a : Addr) (ccd : Value) (cl : List (Str × Addr)) (outer : List Env) (A₀ : Around) (base h₀ : Heap) (L : Addr) (m : Str → Option Value) (s : Shared) (Q E : Value → Shared → Prop),
    Below A₀ base outer h₀ → Fr h₀ L s.heap m → (hd.heap_39 w.params).In h₀ → News h₀ L s.heap news → base.IsList l vs.toArray → IntsAre vs ns → ns.length ≤ 63 → Top hd.view_39 (looseW hd.view_39 []) mean mg mb h₀ → cs.kind = .function →
    dp + d < recursionLimit → un + 8 * d + 200 < cLine →
    (∀ (D : Addr) (ys : List Value) (nn : Nat) (tl : List (Addr × Obj)) (h' : Heap) (tk' : Nat), Fr h₀ L h' m → News h₀ L h' ((D, PySem.W.listOf ys.toArray nn) :: (tl ++ news)) → DatAll (tl ++ news) ys out → Q (.ref D) { s with heap := h', toks := tk' }) →
      wpAny (model PySem.Challenge.rw_wr0006_01.row.prog w) (ktrTop dp un gd cn cs L a ccd cl outer) (call (.ref f) [.ref l]) Q E s
def nums (ns : List Int) : List Int := ns.take 16 ++ [2, -5, 7, 32, 517, -80]
def powD (k : Int) : Dat := Dat.tuple [Dat.str (Txt.item (Str.ofString "ab") (k.fmod 2)), Dat.int ((k.fdiv 2 + 512).fmod 1025 - 512)]
local macro_rules | `(tactic| walk_at "CompSrc") => `(tactic| (k_here; k_dflt (refine LCg.CompSrc.ledger (by rfl) (by k_asm) (by k_asm) (by k_mem) (by kcf_size) ?_; intro g'; refine' mcf_list powD (by first | assumption | l_ints) ?mturn ?mfin)))
set_option maxRecDepth 100000 in
set_option maxHeartbeats 8000000 in
theorem ctr_powers (w : World) (ns : List Int) : PClaim w 40 2 ns ((nums ns).map powD) := by
  unfold PClaim
  k_with_none
  w_top off
  k_fill
  intros; rename_i hret
  (with_reducible rename _ ≤ 63 => hLen63)
  refine wpAny_call ?_
  k_dflt cell_enter
  k_steps
  · (rename Fr _ _ _ _ => F9)
    (rename News _ _ _ _ => N9)
    (with_unfolding_all refine comp_close F9 N9 (by with_reducible assumption) (by with_reducible assumption) src_mine ?_)
    exact DatIn.tuple (vs := [_, _]) (n := 0) (List.mem_cons_self ..) (DatAll.cons (DatIn.str _ _) (DatAll.cons (DatIn.int _ _) DatAll.nil))
  · (rename Fr _ _ _ _ => F9)
    (rename News _ _ _ _ => N9)
    (with_reducible rename DatAll _ _ _ => D9)
    rw [three_in] at N9 D9
    exact hret _ _ _ _ _ _ F9 N9 D9
end Mine

namespace Mine
open PySem PySem.W PyProof.Rows PySem.Calls
theorem LClaim.use2 {w : World} {f : Addr} {d : Nat} {pre : Prop} {ds : List Dat} {vs : Addr → List Value} {R : Tok → Value} (C : LClaim w f d pre ds vs R)
    {mean : ExcName → Option Value} {mg mb : Str → Option Value} {D : Addr} {ys : List Value} {nn : Nat} {all : List (Addr × Obj)} {dp un : Nat} {gd : Option (List Code)} {cn : Str} {cs : Scope} {a : Addr} {ccd : Value} {cl : List (Str × Addr)} {outer : List Env} {A₀ : Around} {base h₀ : Heap} {L : Addr} {m : Str → Option Value} {s : Shared} {Q E : Value → Shared → Prop}
    (B : Below A₀ base outer h₀) (F : Fr h₀ L s.heap m) (X : (hd.heap_39 w.params).In h₀) (N : News h₀ L s.heap all) (T : Top hd.view_39 (looseW hd.view_39 []) mean mg mb h₀) (hk : cs.kind = .function)
    (hm : (D, PySem.W.listOf ys.toArray nn) ∈ all) (hD : DatAll all ys ds)
    (hp : pre) (h1 : dp + d < recursionLimit) (h2 : un + 8 * d + 200 < cLine) (hr : CbRet h₀ L m all s Q R) :
    wpAny (model PySem.Challenge.rw_wr0006_01.row.prog w) (ktrTop dp un gd cn cs L a ccd cl outer) (call (.ref f) (vs D)) Q E s :=
  LClaim.use C B F X (fun p hp => (List.mem_cons.mp hp).elim (fun e => e ▸ N _ hm) (fun h => N p h)) hD T hk hp h1 h2 (fun t h' tk' F' N' => hr t h' tk' F' fun p hp => N' p (List.mem_cons_of_mem _ hp))
theorem PClaim.use {w : World} {f : Addr} {d : Nat} {ns : List Int} {out : List Dat} (C : PClaim w f d ns out)
    {mean : ExcName → Option Value} {mg mb : Str → Option Value} {l : Addr} {vs : List Value} {news : List (Addr × Obj)} {dp un : Nat} {gd : Option (List Code)} {cn : Str} {cs : Scope} {a : Addr} {ccd : Value} {cl : List (Str × Addr)} {outer : List Env} {A₀ : Around} {base h₀ : Heap} {L : Addr} {m : Str → Option Value} {s : Shared} {Q E : Value → Shared → Prop}
    (B : Below A₀ base outer h₀) (F : Fr h₀ L s.heap m) (X : (hd.heap_39 w.params).In h₀) (N : News h₀ L s.heap news) (T : Top hd.view_39 (looseW hd.view_39 []) mean mg mb h₀) (hk : cs.kind = .function)
    (hl : base.IsList l vs.toArray) (hi : IntsAre vs ns) (hn : ns.length ≤ 63) (h1 : dp + d < recursionLimit) (h2 : un + 8 * d + 200 < cLine)
    (hr : ∀ (D : Addr) (ys : List Value) (nn : Nat) (tl : List (Addr × Obj)) (h' : Heap) (tk' : Nat), Fr h₀ L h' m → News h₀ L h' ((D, PySem.W.listOf ys.toArray nn) :: (tl ++ news)) → DatAll (tl ++ news) ys out → Q (.ref D) { s with heap := h', toks := tk' }) :
    wpAny (model PySem.Challenge.rw_wr0006_01.row.prog w) (ktrTop dp un gd cn cs L a ccd cl outer) (call (.ref f) [.ref l]) Q E s :=
  C _ _ _ _ _ _ _ _ _ _ _ _ _ _ _ _ _ _ _ _ _ _ _ B F X N hl hi hn T hk h1 h2 hr
theorem ab_sign {k : Int} : Txt.item (Str.ofString "ab") (k.fmod 2) = sg (decide (k.fmod 2 = 1)) := by
  have h : k.fmod 2 = 0 ∨ k.fmod 2 = 1 := by
    have h1 := Int.fmod_nonneg_of_pos k (show (0 : Int) < 2 by decide)
    have h2 := Int.fmod_lt_of_pos k (show (0 : Int) < 2 by decide)
    omega
  rcases h with h | h <;> rw [h] <;> decide +kernel
theorem nums_shape (ns : List Int) : Shape ((nums ns).map powD) := by
  intro d hd
  obtain ⟨k, _, rfl⟩ := List.mem_map.mp hd
  refine ⟨decide (k.fmod 2 = 1), (k.fdiv 2 + 512).fmod 1025 - 512, ?_, ?_⟩
  · unfold powD; rw [ab_sign]
  · have h1 := Int.fmod_nonneg_of_pos (k.fdiv 2 + 512) (show (0 : Int) < 1025 by decide)
    have h2 := Int.fmod_lt_of_pos (k.fdiv 2 + 512) (show (0 : Int) < 1025 by decide)
    omega
theorem nums_len (ns : List Int) : ((nums ns).map powD).length ≤ 22 := by
  unfold nums
  simp only [List.length_map, List.length_append, List.length_take, List.length_cons, List.length_nil]
  omega
theorem m_low (x : Int) : 2 ≤ 2 + x.fmod 7 ∧ 2 + x.fmod 7 ≤ 8 := by
  have h1 := Int.fmod_nonneg_of_pos x (show (0 : Int) < 7 by decide)
  have h2 := Int.fmod_lt_of_pos x (show (0 : Int) < 7 by decide)
  omega
local macro_rules | `(tactic| walk_at "call ref") => `(tactic| (k_here; (with_reducible show wpAny _ _ (call (Value.ref 40) _) _ _ _); k_dflt (refine' PClaim.use (ctr_powers _ _) ?k1 ?k2 ?k3 ?k4 ?k5 ?kK ?kl ?ki ?kn ?kd ?ku ?_; (case k1 => k_asm); (case k2 => k_asm); (case k3 => k_asm); (case k4 => k_asm); (case k5 => k_asm); (case kK => first | exact rfl | assumption); (case kl => k_asm); (case ki => l_ints); (case kn => omega); (case kd => ktr_room); (case ku => ktr_units)); intro D8 ys8 nn8 tl8 h9 tk9 F9 N9 D9; (try simp only [List.append_nil] at N9 D9); (try dsimp only); (try k_fold)))
local macro_rules | `(tactic| walk_at "call ref") => `(tactic| (k_here; (with_reducible show wpAny _ _ (call (Value.ref 61) _) _ _ _); (with_reducible rename DatAll _ _ _ => D7); k_dflt (refine' LClaim.use2 (ctr_left _ _) ?k1 ?k2 ?k3 ?k4 ?k5 ?kK ?km ?kD ?kp ?kd ?ku ?_; (case k1 => k_asm); (case k2 => k_asm); (case k3 => k_asm); (case k4 => k_asm); (case k5 => k_asm); (case kK => first | exact rfl | assumption); (case km => k_mem); (case kD => kd_all); (case kp => exact ⟨nums_shape _, nums_len _⟩); (case kd => ktr_room); (case ku => ktr_units)); intro t9 h9 tk9 F9 N9; (try dsimp only); (try k_fold)))
local macro_rules | `(tactic| walk_at "call ref") => `(tactic| (k_here; (with_reducible show wpAny _ _ (call (Value.ref 75) _) _ _ _); (with_reducible rename DatAll _ _ _ => D7); k_dflt (refine' LClaim.use2 (ctr_told _ _ _ _) ?k1 ?k2 ?k3 ?k4 ?k5 ?kK ?km ?kD ?kp ?kd ?ku ?_; (case k1 => k_asm); (case k2 => k_asm); (case k3 => k_asm); (case k4 => k_asm); (case k5 => k_asm); (case kK => first | exact rfl | assumption); (case km => k_mem); (case kD => kd_all); (case kp => exact ⟨⟨nums_shape _, nums_len _⟩, m_low _⟩); (case kd => ktr_room); (case ku => ktr_units)); intro t9 h9 tk9 F9 N9; (try dsimp only); (try k_fold)))
set_option maxRecDepth 100000 in
set_option maxHeartbeats 8000000 in
theorem main : PySem.Challenge.rw_wr0006_01.Holds := hd (by
  k_with_none
  w_top off
  k_go0
  (all_goals try k_fold)
  k_steps)
end Mine

theorem PySem.Challenge.cw_wr0006_01_holds : PySem.Challenge.rw_wr0006_01.Holds :=
  Mine.main
