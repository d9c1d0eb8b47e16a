import PyProof.Rows.All
import Wide.All
import OpenK.AllK
import Wide.FinOn
import KE.KLcPair
import PyProof.NeKinds
import PySem.Challenge.RW_kq0049_01
set_option Elab.async false
section
open PySem PySem.W PyProof.Rows
namespace Mine
set_option maxRecDepth 100000 in
set_option maxHeartbeats 8000000 in
open_top topk for PySem.Challenge.rw_kq0049_01
end Mine
end

section
open PySem PySem.W PyProof.Rows
namespace Mine
noncomputable abbrev PP : Program := Challenge.rw_kq0049_01.row.prog
noncomputable abbrev VW : Program := topk.view_39
noncomputable abbrev LO : List Str := looseW topk.view_39
    [Str.ofString "_twin_re_1", Str.ofString "_twin_re_2", Str.ofString "bytes_types", Str.ofString "a2b_base64",
      Str.ofString "b2a_base64", Str.ofString "b64encode", Str.ofString "b64decode"]
/-- all that stood stays -/
def Keep (h h' : Heap) : Prop := ∀ b o, h.get? b = some o → h'.get? b = some o
theorem Keep.rfl {h : Heap} : Keep h h := fun _ _ e => e
theorem Keep.trans {h h' h'' : Heap} (a : Keep h h') (b : Keep h' h'') : Keep h h'' := fun x o e => b x o (a x o e)

section
variable {w : World} {A : Around} {s : Shared} {K : Frag}
/-- enter a def of the written part: all that stood before stays -/
theorem enter {R : Result → Shared → Prop} {name qual : Str} {params : Arguments} {body : List Stmt} {scope : Scope} {dV kV doc pm cdv ct oc : Value} {an od : Option Addr} {osl : Array (Option Value)} {f : Addr} {args : Args} {binds : List (Str × Value)}
    (X : K.In s.heap) (hlim : s.heap.NoLimit)
    (ho : K.lookup f = some ⟨oc, od, .func (fnOf name qual params body scope dV kV doc pm an cdv ct), osl⟩) (hcd : codeIn K cdv qual = true) (hroom : A.depth < recursionLimit)
    (hbind : BindsTo s (fnOf name qual params body scope dV kV doc pm an cdv ct) args binds) (hloc : ∀ y ∈ binds, scope.names.lookup y.1 = some .local)
    (h : ∀ h₁, Fr s.heap s.heap.objs.size h₁ (fun y => binds.reverse.lookup y) → News s.heap s.heap.objs.size h₁ [] →
      wpAny (model PP w) (A.deeper (envOf qual scope s.heap.objs.size f cdv)) (execs body (envOf qual scope s.heap.objs.size f cdv))
        (fun fl s' => R (.ok (.ret (match fl with | .ret v => v | _ => .none))) s')
        (fun _ _ => False)
        { s with heap := h₁, toks := s.toks + binds.length })
    (hco : scope.isCoroutine = false := by rfl) (hgen : scope.isGenerator = false := by rfl) (hk : scope.kind = .function := by rfl)
    (hcell : ∀ x ∈ scope.names, x.2 ≠ .cell := by decide) : codeAny (model PP w) A (.call (.ref f) args) R s := by
  refine codeAny_call_def (fd := fnOf name qual params body scope dV kV doc pm an cdv ct) (body := body) (binds := binds) hroom (X _ _ ho) rfl hlim (codeRec_of X hcd) rfl hbind hcell hloc (fun h₁ hns hk₁ => ?_) hco hgen hk
  exact wpAny_mono (h h₁ ⟨hns, hk₁, Nat.le_refl _⟩ News.nil) (fun _ _ x => x) (fun _ _ x => x.elim)
theorem frExt {h₀ h h' : Heap} {L : Addr} {m : Str → Option Value} (F : Fr h₀ L h m) (k : Keep h h') : Fr h₀ L h' m :=
  ⟨F.ns.keeps k, fun b o e => k b o (F.keep b o e), F.above⟩
theorem newsExt {h₀ h h' : Heap} {L : Addr} {news : List (Addr × Obj)} (N : News h₀ L h news) (k : Keep h h') : News h₀ L h' news :=
  fun p hp => ⟨k _ _ (N p hp).1, (N p hp).2⟩
theorem roomOf {A : Around} {n : Nat} (h : A.depth < n) (hn : n ≤ 1000) : A.depth < recursionLimit := Nat.lt_of_lt_of_le h hn
end
end Mine
end

section
open PySem PySem.W PySem.Calls PyProof.Rows Mine
local macro_rules | `(tactic| walk_at "mafter") => `(tactic| ((have F' := frExt (by with_reducible assumption) (by with_reducible assumption)); (have N' := newsExt (by with_reducible assumption) (by with_reducible assumption)); (try k_sweep)))
example : True := by
  k_with "menter" => (
      refine' enter (by assumption) (Top.nolimit (by assumption)) ?k1 ?k2 ?k3 ?k4 ?k5 ?_ ?c1 ?c2 ?c3 ?c4
      (case k1 => k_is)
      (case k2 => k_is)
      (case k3 => exact roomOf (by assumption) (by decide))
      (case k4 => first | exact BindsTo.of_eq rfl | exact binds_K (by k_in) rfl (by k_is) rfl rfl rfl)
      (case k5 => exact locs rfl)
      (case c1 => rfl)
      (case c2 => rfl)
      (case c3 => rfl)
      (case c4 => decide))
  k_with "mwalk" => repeat' (first | walk1 | (dsimp only; walk1))
  k_with "mdeep" => (simp only [depth_in1, depth_deeper, Around.in1_depth] at *; omega)
  k_with "mlook" => (repeat (refine (if_neg (by decide)).trans ?_)); first | exact (if_pos rfl) | assumption | exact rfl
  trivial

section
open PySem PySem.W PySem.Calls PyProof.Rows
namespace Mine
/-- a for of pure turns over a range: the states in order -/
theorem forIn_states {β : Type} (f : Nat → β → Sem (ForInStep β)) (st : Nat → β) (n : Nat) (hf : ∀ i, i < n → ∀ x, f x (st i) = pure (.yield (st (i + 1)))) :
    ∀ (k a j : Nat), j + k ≤ n → forIn (List.range' a k) (st j) f = (pure (st (j + k)) : Sem β)
  | 0, a, j, _ => by simp [List.range']
  | k + 1, a, j, h => by
    rw [List.range'_succ, List.forIn_cons, hf j (by omega) a]
    simp only [pure_bind]
    rw [forIn_states f st n hf k (a + 1) (j + 1) (by omega)]
    congr 2; omega
theorem forIn_once {β : Type} (f : Nat → β → Sem (ForInStep β)) (s0 s1 : β) (h0 : ∀ x, f x s0 = pure (.yield s1)) (h1 : ∀ x, f x s1 = pure (.done s1)) (k a : Nat) :
    forIn (List.range' a (k + 1)) s0 f = (pure s1 : Sem β) := by
  rw [List.range'_succ, List.forIn_cons, h0]
  simp only [pure_bind]
  cases k with
  | zero => simp [List.range']
  | succ k => rw [List.range'_succ, List.forIn_cons, h1]; simp only [pure_bind]
namespace Bt
open PySem.Builtin
set_option maxRecDepth 100000
/-! bytes.decode("ascii"), str.encode("ascii") -/
section
variable {b : Array UInt8} {t t1 t2 : Tok} {x : PySem.Str} {n : Nat}
theorem dec_road {id : String} : _codecs.decodeRoad id b (PySem.Str.ofString "ascii") none [] = (_codecs.runDecoder id _codecs.asciiDecoder none true b 0 [] >>= fun r => mkStr ⟨r.1⟩) := by kernel_rfl

theorem run_ascii {id : String} (hb : ∀ c ∈ b.toList, c.toNat < 128) (hsz : b.size ≤ sizeLine) :
    _codecs.runDecoder id _codecs.asciiDecoder none true b 0 [] = pure (b.map (·.toNat), b.size) := by
  unfold _codecs.runDecoder
  simp only [Std.Legacy.Range.forIn_eq_forIn_range', Std.Legacy.Range.size]
  have e2 : (b.size - 0 + 1 - 1) / 1 = b.size := by simp
  rw [e2]
  have e0 : ((0, #[], {}) : Nat × Array Nat × _codecs.Faults) = (fun i : Nat => ((i, (b.toList.take i).map (·.toNat) |>.toArray, {}) : Nat × Array Nat × _codecs.Faults)) 0 := by simp
  rw [e0, forIn_states (β := Nat × Array Nat × _codecs.Faults) _ (fun i => (i, (b.toList.take i).map (·.toNat) |>.toArray, {})) b.size (fun i hi x => ?_) b.size 0 0 (by omega)]
  · simp only [pure_bind]
    congr 2
    · show (List.map (fun x => x.toNat) (List.take (0 + b.size) b.toList)).toArray = _
      rw [Nat.zero_add, List.take_of_length_le (by simp)]
      rw [← Array.toList_map]
    · show 0 + b.size = b.size
      omega
  · dsimp only
    have h1 : ¬ ((b.toList.take i).map (·.toNat) |>.toArray).size > sizeLine := by simp; omega
    have h2 : ¬ i ≥ b.size := by omega
    have h3 : _codecs.asciiDecoder.find true b i = .char (b.getD i 0).toNat (i + 1) := by
      show (if (b.getD i 0).toNat < 128 then _ else _) = _
      rw [if_pos]
      apply hb
      have : b.getD i 0 = b.toList[i]'(by simpa using hi) := by simp [Array.getD, hi]
      rw [this]; exact List.getElem_mem _
    rw [if_neg h1, if_neg h2, h3]
    show pure (ForInStep.yield _) = _
    have h4 : b.toList.take (i + 1) = b.toList.take i ++ [b.getD i 0] := by
      rw [List.take_add_one]; simp [Array.getD, hi]
    rw [h4]
    simp
theorem dec_entry : «bytes.decode» ⟨[.bytes b t, .str (PySem.Str.ofString "ascii") t1], []⟩ = (if b.isEmpty = true then (do rule "bytes.decode.empty"; return ← retStr Str.empty) else (mkStr (PySem.Str.ofString "utf-8") >>= fun _ => mkStr (PySem.Str.ofString "ascii") >>= fun e => mkStr (PySem.Str.ofString "bytes.decode") >>= fun d =>
    call (.builtin "_codecs.decode.text") [.bytes b t, e, .none, d] >>= fun v => ret v)) := by kernel_rfl
theorem dec_text {d : PySem.Str} (hb : ∀ c ∈ b.toList, c.toNat < 128) :
    Meets («_codecs.decode.text» ⟨[.bytes b t, .str (PySem.Str.ofString "ascii") t1, .none, .str d t2], []⟩) (fun _ R s => b.size ≤ sizeLine ∧ R (.ok (.ret (.str ⟨b.map (·.toNat)⟩ s.toks))) { s with toks := s.toks + 1 }) := by
  refine .of_wp fun prog w A R s hS => ?_
  obtain ⟨hsz, h⟩ := hS
  show wpAny _ _ (Bytes.bytesLike _ (.bytes b t) >>= fun r => _) _ _ s
  refine wpAny_bind (wpAny_of_eq KBd.like_eq ?_)
  refine wpAny_bind (wpAny_of_eq KBd.held_eq ?_)
  show wpAny _ _ (_codecs.decodeRoad _ b (PySem.Str.ofString "ascii") none [] >>= fun v => _) _ _ s
  rw [dec_road, run_ascii hb hsz]
  refine wpAny_bind (wpAny_bind (wpAny_pure ?_))
  exact wpAny_mkStr (wpAny_pure ⟨_, rfl, h⟩) (by show (b.map _).size ≤ _; rw [Array.size_map]; exact hsz)
theorem dec_meets (hb : ∀ c ∈ b.toList, c.toNat < 128) :
    Meets («bytes.decode» ⟨[.bytes b t, .str (PySem.Str.ofString "ascii") t1], []⟩) (fun _ R s => b.size ≤ sizeLine ∧ ∀ t' k, R (.ok (.ret (.str ⟨b.map (·.toNat)⟩ t'))) { s with toks := k }) := by
  refine .of_wp fun prog w A R s hS => ?_
  obtain ⟨hsz, h⟩ := hS
  rw [dec_entry]
  by_cases he : b.isEmpty = true
  · rw [if_pos he]
    obtain rfl : b = #[] := by simpa using he
    refine wpAny_bind (wpAny_rule ?_)
    show wpAny _ _ (mkStr Str.empty >>= fun v => _) _ _ s
    exact wpAny_bind (wpAny_mkStr (wpAny_pure ⟨_, rfl, (by have := h s.toks (s.toks + 1); rw [Array.map_empty] at this; exact this)⟩) (by decide))
  · rw [if_neg he]
    refine wpAny_bind (wpAny_mkStr ?_ (by decide))
    refine wpAny_bind (wpAny_mkStr ?_ (by decide))
    refine wpAny_bind (wpAny_mkStr ?_ (by decide))
    exact wpAny_bind (call_function_meets KBd.kind_text KBd.plain_text KBd.entry_text (KBd.args_text _ _ _ _) (dec_text hb) ⟨hsz, wpAny_pure ⟨_, rfl, h _ _⟩⟩)
theorem args_dec2 (a b : Value) : argsOk "bytes.decode" ⟨[a, b], []⟩ := by
  unfold argsOk; rw [signature?_of (id := "bytes.decode") (n := ['e', 'd', 'o', 'c', 'e', 'd']) (o := ['s', 'e', 't', 'y', 'b']) (by kernel_rfl) FB.owner_bytes]; kernel_rfl
theorem call_decode {prog : Program} {w : World} {A : Around} {E : Value → Shared → Prop} {s : Shared} {Q : Value → Shared → Prop} (hb : ∀ c ∈ b.toList, c.toNat < 128) (hsz : b.size ≤ sizeLine)
    (h : ∀ t' k, Q (.str ⟨b.map (·.toNat)⟩ t') { s with toks := k }) :
    wpAny (model prog w) A (call (.builtin "bytes.decode") [.bytes b t, .str (PySem.Str.ofString "ascii") t1]) Q E s :=
  call_meets FB.slot_bytes_decode (typeIs_bytes _ _ _) FB.entry_bytes_decode (args_dec2 _ _) (dec_meets hb) ⟨hsz, h⟩

theorem enc_narrow {id : String} {self : Value} (hx : ∀ c ∈ x.cps.toList, c < 128) (hsz : x.cps.size ≤ sizeLine) :
    _codecs.encodeNarrow id _codecs.asciiCodec none self x = pure (x.cps.map (·.toUInt8)) := by
  unfold _codecs.encodeNarrow
  simp only [Std.Legacy.Range.forIn_eq_forIn_range', Std.Legacy.Range.size]
  have e2 : (x.length - 0 + 1 - 1) / 1 = x.cps.size := by simp; rfl
  rw [e2]
  have hc : ∀ i c, x.cps[i]? = some c → _codecs.asciiCodec.bad c = false := fun i c e => by
    have := hx c (Array.mem_toList_iff.mpr (Array.mem_of_getElem? e))
    show decide (c ≥ 128) = false
    exact decide_eq_false (by omega)
  have hn : x.cps.findIdx? _codecs.asciiCodec.bad = none := by
    rw [Array.findIdx?_eq_none_iff]
    intro c hm
    have := hx c (Array.mem_toList_iff.mpr hm)
    show decide (c ≥ 128) = false
    exact decide_eq_false (by omega)
  have hf : x.cps.foldl (fun acc y => acc ++ (_codecs.asciiCodec.bytesOf y).toArray) #[] = x.cps.map (·.toUInt8) := by
    rw [← Array.foldl_toList, ← Array.toArray_toList (xs := x.cps)]
    generalize x.cps.toList = l
    have key : ∀ (l : List Nat) (acc : Array UInt8), l.foldl (fun acc y => acc ++ (_codecs.asciiCodec.bytesOf y).toArray) acc = acc ++ (l.map (·.toUInt8)).toArray := by
      intro l
      induction l with
      | nil => intro acc; simp
      | cons c r ih => intro acc; rw [List.foldl_cons, ih]; simp [_codecs.asciiCodec]
    simp [key]
  cases hs : x.cps.size with
  | zero =>
    have : x.cps = #[] := Array.eq_empty_of_size_eq_zero hs
    simp [this, List.range']
  | succ k =>
    rw [forIn_once (β := Nat × Array UInt8 × _codecs.Faults) _ (0, #[], {}) (x.cps.size, x.cps.map (·.toUInt8), {}) ?h0 ?h1]
    case h0 =>
      intro y
      dsimp only
      have hlt : ¬ (#[] : Array UInt8).size > sizeLine := by simp
      rw [if_neg hlt]
      have h0 : x.cps[0]? = some x.cps[0] := by simp [hs]
      rw [h0]
      dsimp only
      rw [if_pos (by rw [hc 0 _ h0]; rfl)]
      have hE : x.cps.extract 0 x.cps.size = x.cps := by simp
      rw [hs] at hE
      rw [hs] at hf
      simp only [hE, hn, Option.getD_none, Nat.zero_add, hs, hf]
    case h1 =>
      intro y
      dsimp only
      have hlt : ¬ (x.cps.map (·.toUInt8)).size > sizeLine := by rw [Array.size_map]; exact Nat.not_lt.mpr hsz
      rw [if_neg hlt]
      have h0 : x.cps[x.cps.size]? = none := by simp
      rw [h0]
    simp only [pure_bind]
theorem enc_entry : «str.encode» ⟨[.str x t, .str (PySem.Str.ofString "ascii") t1], []⟩ = ((_codecs.encodeNarrow "str.encode" _codecs.asciiCodec none (.str x t) x >>= fun b => mkBytes b) >>= fun v => ret v) := by kernel_rfl
theorem enc_meets (hx : ∀ c ∈ x.cps.toList, c < 128) :
    Meets («str.encode» ⟨[.str x t, .str (PySem.Str.ofString "ascii") t1], []⟩) (fun _ R s => x.length ≤ sizeLine ∧ R (.ok (.ret (.bytes (x.cps.map (·.toUInt8)) s.toks))) { s with toks := s.toks + 1 }) := by
  refine .of_wp fun prog w A R s hS => ?_
  obtain ⟨hsz, h⟩ := hS
  rw [enc_entry, enc_narrow hx hsz]
  refine wpAny_bind (wpAny_bind (wpAny_pure ?_))
  exact (wpAny_mkBytes (wpAny_pure ⟨_, rfl, h⟩) (by rw [Array.size_map]; exact hsz))
theorem call_encode {prog : Program} {w : World} {A : Around} {E : Value → Shared → Prop} {s : Shared} {Q : Value → Shared → Prop} (hx : ∀ c ∈ x.cps.toList, c < 128) (hsz : x.length ≤ sizeLine)
    (h : Q (.bytes (x.cps.map (·.toUInt8)) s.toks) { s with toks := s.toks + 1 }) :
    wpAny (model prog w) A (call (.builtin "str.encode") [.str x t, .str (PySem.Str.ofString "ascii") t1]) Q E s :=
  call_meets F.slot_str_encode (typeIs_str _ _ _) F.entry_str_encode (F.args_str_encode_2 _ _) (enc_meets hx) ⟨hsz, h⟩
end
end Bt
end Mine
end

section
open PySem PySem.W PySem.Calls PyProof.Rows
namespace Mine
namespace Rx
open PySem.Sre
theorem runFor_succ (n : Nat) (m : M) : M.runFor (n + 1) m = if m.outcome.isSome then m else M.runFor n m.step := rfl
theorem runFor_done {m : M} (h : m.outcome.isSome = true) : ∀ k, M.runFor k m = m
  | 0 => rfl
  | k + 1 => by rw [runFor_succ, if_pos h]
theorem runFor_add (a b : Nat) (m : M) : M.runFor (a + b) m = M.runFor b (M.runFor a m) := by
  induction a generalizing m with
  | zero => simp [M.runFor]
  | succ a ih =>
    rw [Nat.succ_add, runFor_succ, runFor_succ]
    by_cases h : m.outcome.isSome = true
    · rw [if_pos h, if_pos h, runFor_done h]
    · rw [if_neg h, if_neg h, ih]
theorem runFor_one {m : M} (h : m.outcome.isSome = false) : M.runFor 1 m = m.step := by
  rw [runFor_succ, if_neg (by rw [h]; exact Bool.false_ne_true)]; rfl

/-- the machine ends within k steps in m' -/
def Ends (m : M) (k : Nat) (m' : M) : Prop := M.runFor k m = m'
theorem Ends.trans {m m' m'' : M} {j k : Nat} (a : Ends m j m') (b : Ends m' k m'') : Ends m (j + k) m'' := by
  unfold Ends at *; rw [runFor_add, a, b]
theorem Ends.one {m m' : M} (h : m.outcome.isSome = false) (e : m.step = m') : Ends m 1 m' := by
  unfold Ends; rw [runFor_one h, e]

def code1 : Array Nat := #[14, 4, 0, 1, 1, 6, 1, 16, 46, 1]
def code2 : Array Nat := #[14, 9, 4, 1, 2, 16, 10, 16, 13, 0, 7, 7, 16, 13, 16, 10, 15, 18, 5, 16, 10, 15, 13, 11, 16, 13, 5, 5, 0, 16, 10, 1, 15, 2, 0, 1]

abbrev mk (code text : Array Nat) (st pc pos hd : Nat) (ob : Bool) (fs : List Sre.Frame) (wt : Nat) (an : Option Bool) (sn : Sre.Seen) (oc : Option Sre.Outcome) : M :=
  { code, text, lim := text.size, start := st, lastStart := text.size, wholeText := false, mustAdvance := false, pc, pos, handed := hd, outermost := ob, marks := #[],
    lastmark := -1, lastindex := -1, loops := #[], inner := none, frames := fs, weight := wt, answer := an, seen := sn, outcome := oc }
abbrev fr1 (pc s : Nat) (ob : Bool) : Sre.Frame := { wait := .nextStart, pc := pc, pos := s, outermost := ob }

section
variable {text : Array Nat} {s : Nat} {ob : Bool} {sn : Sre.Seen} {hd : Nat} {fs : List Sre.Frame} {wt : Nat} {pos st : Nat}

theorem c1_at : ∃ sn', (mk code1 text st 5 pos hd ob fs wt none sn none).step =
    if (pos == 0 || text.getD (pos - 1) 0 == 10) = true then mk code1 text st 7 pos hd ob fs wt none sn' none else mk code1 text st 5 pos hd ob fs wt (some false) sn' none := ⟨_, rfl⟩
theorem c1_lit : ∃ sn', (mk code1 text st 7 pos hd ob fs wt none sn none).step =
    if pos ≥ text.size then mk code1 text st 7 pos hd ob fs wt (some false) sn' none else if (text.getD pos 0 == 46) = true then mk code1 text st 9 (pos + 1) hd ob fs wt none sn' none else mk code1 text st 7 pos hd ob fs wt (some false) sn' none := by
  refine ⟨sn.add 16, ?_⟩
  show (if pos ≥ text.size then _ else (match (Except.ok ((text.getD pos 0 == 46), sn.add 16) : Except String (Bool × Sre.Seen)) with | .error why => _ | .ok (false, seen) => _ | .ok (true, seen) => _)) = _
  by_cases h : pos ≥ text.size
  · rw [if_pos h, if_pos h]; rfl
  · rw [if_neg h, if_neg h]
    cases h2 : (text.getD pos 0 == 46) <;> rfl
theorem c1_succ : ∃ sn', (mk code1 text st 9 pos hd ob fs wt none sn none).step = mk code1 text st 9 pos pos ob fs wt (some true) sn' none := by
  refine ⟨sn.add 1, ?_⟩
  cases ob <;> rfl
theorem c1_fail (pc : Nat) : ∃ sn', (mk code1 text st pc pos hd ob [fr1 5 s ob] 1 (some false) sn none).step =
    if s < text.size then mk code1 text (s + 1) 5 (s + 1) (s + 1) false [fr1 5 (s + 1) false] 1 none sn' none else mk code1 text st 5 s hd ob [] 0 (some false) sn' none := by
  refine ⟨sn, ?_⟩
  show (if s < text.size then _ else _) = _
  by_cases h : s < text.size
  · rw [if_pos h, if_pos h]; rfl
  · rw [if_neg h, if_neg h]; rfl
theorem c_yes {code : Array Nat} {pc : Nat} {b : Nat} : (mk code text st b pos hd ob [fr1 pc s ob] 1 (some true) sn none).step = mk code text st pc s hd ob [] 0 (some true) sn none := rfl
theorem c_end {code : Array Nat} {pc : Nat} {y : Bool} : (mk code text st pc pos hd ob [] 0 (some y) sn none).step = mk code text st pc pos hd ob [] 0 (some y) sn (some (if y then .matched else .failed)) := rfl
end

/-- the least place from s on, of at most n, that is ok -/
def findOk (ok : Nat → Bool) : Nat → Nat → Option Nat
  | 0, _ => none
  | n + 1, s => if ok s then some s else findOk ok n (s + 1)
def ok1 (text : Array Nat) (p : Nat) : Bool := (p == 0 || text.getD (p - 1) 0 == 10) && (decide (p < text.size) && text.getD p 0 == 46)
def Says (m : M) : Option (Nat × Nat) → Prop
  | some (a, b) => m.outcome = some .matched ∧ m.start = a ∧ m.handed = b
  | none => m.outcome = some .failed

theorem fail1 {text : Array Nat} {s st pc pos hd : Nat} {ob : Bool} {sn : Sre.Seen} {n : Nat} {r : Option (Nat × Nat)} (hs : s ≤ text.size)
    (h : s < text.size → ∀ sn, ∃ m' k, Ends (mk code1 text (s + 1) 5 (s + 1) (s + 1) false [fr1 5 (s + 1) false] 1 none sn none) k m' ∧ k ≤ n ∧ Says m' r)
    (h0 : s = text.size → r = none) :
    ∃ m' k, Ends (mk code1 text st pc pos hd ob [fr1 5 s ob] 1 (some false) sn none) k m' ∧ k ≤ n + 2 ∧ Says m' r := by
  obtain ⟨sn', e⟩ := c1_fail (text := text) (s := s) (ob := ob) (sn := sn) (hd := hd) (pos := pos) (st := st) pc
  by_cases hlt : s < text.size
  · rw [if_pos hlt] at e
    obtain ⟨m', k, a, b, c⟩ := h hlt sn'
    exact ⟨m', 1 + k, Ends.trans (Ends.one rfl e) a, by omega, c⟩
  · rw [if_neg hlt] at e
    rw [h0 (by omega)]
    exact ⟨_, 1 + 1, Ends.trans (Ends.one rfl e) (Ends.one rfl c_end), by omega, rfl⟩
theorem turn1 {text : Array Nat} {s : Nat} {ob : Bool} {sn : Sre.Seen} {n : Nat} {r : Option (Nat × Nat)} (hs : s ≤ text.size)
    (h : s < text.size → ok1 text s = false → ∀ sn, ∃ m' k, Ends (mk code1 text (s + 1) 5 (s + 1) (s + 1) false [fr1 5 (s + 1) false] 1 none sn none) k m' ∧ k ≤ n ∧ Says m' r)
    (h0 : s = text.size → ok1 text s = false → r = none) (h1 : ok1 text s = true → r = some (s, s + 1)) :
    ∃ m' k, Ends (mk code1 text s 5 s s ob [fr1 5 s ob] 1 none sn none) k m' ∧ k ≤ n + 8 ∧ Says m' r := by
  obtain ⟨sn', e⟩ := c1_at (text := text) (st := s) (pos := s) (hd := s) (ob := ob) (fs := [fr1 5 s ob]) (wt := 1) (sn := sn)
  by_cases ha : (s == 0 || text.getD (s - 1) 0 == 10) = true
  · rw [if_pos ha] at e
    obtain ⟨sn2, e2⟩ := c1_lit (text := text) (st := s) (pos := s) (hd := s) (ob := ob) (fs := [fr1 5 s ob]) (wt := 1) (sn := sn')
    by_cases hl : s ≥ text.size
    · rw [if_pos hl] at e2
      have ho : ok1 text s = false := by unfold ok1; rw [decide_eq_false (by omega : ¬ s < text.size)]; simp
      obtain ⟨m', k, a, b, c⟩ := fail1 (st := s) (pc := 7) (pos := s) (hd := s) (ob := ob) (sn := sn2) hs (fun hlt => h hlt ho) (fun q => h0 q ho)
      exact ⟨m', 1 + (1 + k), (Ends.one rfl e).trans ((Ends.one rfl e2).trans a), by omega, c⟩
    · rw [if_neg hl] at e2
      by_cases hc : (text.getD s 0 == 46) = true
      · rw [if_pos hc] at e2
        have ho : ok1 text s = true := by unfold ok1; rw [ha, hc, decide_eq_true (by omega : s < text.size)]; rfl
        rw [h1 ho]
        obtain ⟨sn3, e3⟩ := c1_succ (text := text) (st := s) (pos := s + 1) (hd := s) (ob := ob) (fs := [fr1 5 s ob]) (wt := 1) (sn := sn2)
        exact ⟨_, 1 + (1 + (1 + (1 + 1))), (Ends.one rfl e).trans ((Ends.one rfl e2).trans ((Ends.one rfl e3).trans ((Ends.one rfl c_yes).trans (Ends.one rfl c_end)))), by omega, rfl, rfl, rfl⟩
      · rw [if_neg hc] at e2
        have ho : ok1 text s = false := by unfold ok1; rw [Bool.eq_false_iff.mpr hc]; simp
        obtain ⟨m', k, a, b, c⟩ := fail1 (st := s) (pc := 7) (pos := s) (hd := s) (ob := ob) (sn := sn2) hs (fun hlt => h hlt ho) (fun q => h0 q ho)
        exact ⟨m', 1 + (1 + k), (Ends.one rfl e).trans ((Ends.one rfl e2).trans a), by omega, c⟩
  · rw [if_neg ha] at e
    have ho : ok1 text s = false := by unfold ok1; rw [Bool.eq_false_iff.mpr ha]; simp
    obtain ⟨m', k, a, b, c⟩ := fail1 (st := s) (pc := 5) (pos := s) (hd := s) (ob := ob) (sn := sn') hs (fun hlt => h hlt ho) (fun q => h0 q ho)
    exact ⟨m', 1 + k, (Ends.one rfl e).trans a, by omega, c⟩
theorem search1 {text : Array Nat} : ∀ (n s : Nat) (ob : Bool) (sn : Sre.Seen), s + n = text.size →
    ∃ m' k, Ends (mk code1 text s 5 s s ob [fr1 5 s ob] 1 none sn none) k m' ∧ k ≤ 8 * (n + 1) ∧ Says m' ((findOk (ok1 text) (n + 1) s).map fun p => (p, p + 1)) := by
  intro n
  induction n with
  | zero =>
    intro s ob sn hs
    have hf : findOk (ok1 text) 1 s = none := by
      show (if ok1 text s then some s else none) = none
      rw [if_neg]
      unfold ok1
      rw [decide_eq_false (by omega : ¬ s < text.size)]
      simp
    rw [hf]
    refine turn1 (n := 0) (by omega) (fun h => absurd h (by omega)) (fun _ _ => rfl) (fun h => ?_)
    exfalso
    unfold ok1 at h
    rw [decide_eq_false (by omega : ¬ s < text.size)] at h
    simp at h
  | succ n ih =>
    intro s ob sn hs
    by_cases h : ok1 text s = true
    · have hf : findOk (ok1 text) (n + 1 + 1) s = some s := by
        show (if ok1 text s then some s else _) = _
        rw [if_pos h]
      rw [hf]
      refine turn1 (n := 8 * (n + 1)) (by omega) (fun _ hn => absurd h (by rw [hn]; exact Bool.false_ne_true)) (fun _ h' => absurd h (by rw [h']; exact Bool.false_ne_true)) (fun _ => rfl)
    · have hf : findOk (ok1 text) (n + 1 + 1) s = findOk (ok1 text) (n + 1) (s + 1) := by
        show (if ok1 text s then some s else _) = _
        rw [if_neg h]
      rw [hf]
      refine turn1 (n := 8 * (n + 1)) (by omega) (fun hlt _ sn => ih (s + 1) false sn (by omega)) (fun h0 _ => ?_) (fun h' => absurd h' h)
      exfalso; omega
end Rx
end Mine
end

section
open PySem PySem.W PySem.Calls PyProof.Rows
namespace Mine
namespace Rx
open PySem.Sre
abbrev kp : Sre.Kept := { lastmark := -1, lastindex := -1, whole := false, marks := #[] }
abbrev frB (pc s : Nat) (ob : Bool) : Sre.Frame := { wait := .nextBranch, pc := pc, pos := s, outermost := ob, kept := kp }
abbrev frN (pc s : Nat) (ob : Bool) : Sre.Frame := { wait := .lookNot, pc := pc, pos := s, outermost := ob, kept := kp }
section
variable {text : Array Nat} {s : Nat} {ob : Bool} {sn : Sre.Seen} {hd : Nat} {fs : List Sre.Frame} {pos st : Nat}
theorem b_start : ∃ sn', (mk code2 text st 10 pos hd ob fs 1 none sn none).step = mk code2 text st 12 pos pos ob (frB 11 pos ob :: fs) 2 none sn' none := ⟨_, rfl⟩
theorem b_alt2 {pc : Nat} {p : Nat} : ∃ sn', (mk code2 text st pc p hd ob (frB 11 pos ob :: fs) 2 (some false) sn none).step = mk code2 text st 19 pos pos ob (frB 18 pos ob :: fs) 2 none sn' none := ⟨_, rfl⟩
theorem b_alt3 {pc : Nat} {p : Nat} : ∃ sn', (mk code2 text st pc p hd ob (frB 18 pos ob :: fs) 2 (some false) sn none).step = mk code2 text st 24 pos pos ob (frB 23 pos ob :: fs) 2 none sn' none := ⟨_, rfl⟩
theorem lit12 : ∃ sn', (mk code2 text st 12 pos hd ob fs 2 none sn none).step =
    if pos ≥ text.size then mk code2 text st 12 pos hd ob fs 2 (some false) sn' none else if (text.getD pos 0 == 13) = true then mk code2 text st 14 (pos + 1) hd ob fs 2 none sn' none else mk code2 text st 12 pos hd ob fs 2 (some false) sn' none := by
  refine ⟨sn.add 16, ?_⟩
  show (if pos ≥ text.size then _ else (match (Except.ok ((text.getD pos 0 == 13), sn.add 16) : Except String (Bool × Sre.Seen)) with | .error why => _ | .ok (false, seen) => _ | .ok (true, seen) => _)) = _
  by_cases h : pos ≥ text.size
  · rw [if_pos h, if_pos h]; rfl
  · rw [if_neg h, if_neg h]
    cases h2 : (text.getD pos 0 == 13) <;> rfl
theorem lit14 : ∃ sn', (mk code2 text st 14 pos hd ob fs 2 none sn none).step =
    if pos ≥ text.size then mk code2 text st 14 pos hd ob fs 2 (some false) sn' none else if (text.getD pos 0 == 10) = true then mk code2 text st 16 (pos + 1) hd ob fs 2 none sn' none else mk code2 text st 14 pos hd ob fs 2 (some false) sn' none := by
  refine ⟨sn.add 16, ?_⟩
  show (if pos ≥ text.size then _ else (match (Except.ok ((text.getD pos 0 == 10), sn.add 16) : Except String (Bool × Sre.Seen)) with | .error why => _ | .ok (false, seen) => _ | .ok (true, seen) => _)) = _
  by_cases h : pos ≥ text.size
  · rw [if_pos h, if_pos h]; rfl
  · rw [if_neg h, if_neg h]
    cases h2 : (text.getD pos 0 == 10) <;> rfl
theorem lit19 : ∃ sn', (mk code2 text st 19 pos hd ob fs 2 none sn none).step =
    if pos ≥ text.size then mk code2 text st 19 pos hd ob fs 2 (some false) sn' none else if (text.getD pos 0 == 10) = true then mk code2 text st 21 (pos + 1) hd ob fs 2 none sn' none else mk code2 text st 19 pos hd ob fs 2 (some false) sn' none := by
  refine ⟨sn.add 16, ?_⟩
  show (if pos ≥ text.size then _ else (match (Except.ok ((text.getD pos 0 == 10), sn.add 16) : Except String (Bool × Sre.Seen)) with | .error why => _ | .ok (false, seen) => _ | .ok (true, seen) => _)) = _
  by_cases h : pos ≥ text.size
  · rw [if_pos h, if_pos h]; rfl
  · rw [if_neg h, if_neg h]
    cases h2 : (text.getD pos 0 == 10) <;> rfl
theorem lit24 : ∃ sn', (mk code2 text st 24 pos hd ob fs 2 none sn none).step =
    if pos ≥ text.size then mk code2 text st 24 pos hd ob fs 2 (some false) sn' none else if (text.getD pos 0 == 13) = true then mk code2 text st 26 (pos + 1) hd ob fs 2 none sn' none else mk code2 text st 24 pos hd ob fs 2 (some false) sn' none := by
  refine ⟨sn.add 16, ?_⟩
  show (if pos ≥ text.size then _ else (match (Except.ok ((text.getD pos 0 == 13), sn.add 16) : Except String (Bool × Sre.Seen)) with | .error why => _ | .ok (false, seen) => _ | .ok (true, seen) => _)) = _
  by_cases h : pos ≥ text.size
  · rw [if_pos h, if_pos h]; rfl
  · rw [if_neg h, if_neg h]
    cases h2 : (text.getD pos 0 == 13) <;> rfl
theorem lit29 : ∃ sn', (mk code2 text st 29 pos hd ob fs 3 none sn none).step =
    if pos ≥ text.size then mk code2 text st 29 pos hd ob fs 3 (some false) sn' none else if (text.getD pos 0 == 10) = true then mk code2 text st 31 (pos + 1) hd ob fs 3 none sn' none else mk code2 text st 29 pos hd ob fs 3 (some false) sn' none := by
  refine ⟨sn.add 16, ?_⟩
  show (if pos ≥ text.size then _ else (match (Except.ok ((text.getD pos 0 == 10), sn.add 16) : Except String (Bool × Sre.Seen)) with | .error why => _ | .ok (false, seen) => _ | .ok (true, seen) => _)) = _
  by_cases h : pos ≥ text.size
  · rw [if_pos h, if_pos h]; rfl
  · rw [if_neg h, if_neg h]
    cases h2 : (text.getD pos 0 == 10) <;> rfl
theorem j16 : ∃ sn', (mk code2 text st 16 pos hd ob fs 2 none sn none).step = mk code2 text st 35 pos hd ob fs 2 none sn' none := ⟨_, rfl⟩
theorem j21 : ∃ sn', (mk code2 text st 21 pos hd ob fs 2 none sn none).step = mk code2 text st 35 pos hd ob fs 2 none sn' none := ⟨_, rfl⟩
theorem j32 : ∃ sn', (mk code2 text st 32 pos hd ob fs 2 none sn none).step = mk code2 text st 35 pos hd ob fs 2 none sn' none := ⟨_, rfl⟩
theorem n26 : ∃ sn', (mk code2 text st 26 pos hd ob fs 2 none sn none).step = mk code2 text st 29 pos pos false (frN 26 pos ob :: fs) 3 none sn' none := ⟨_, rfl⟩
theorem n_no {pc p : Nat} {o : Bool} : ∃ sn', (mk code2 text st pc p hd o (frN 26 pos ob :: fs) 3 (some false) sn none).step = mk code2 text st 32 pos hd ob fs 2 none sn' none := ⟨_, rfl⟩
theorem s35 : ∃ sn', (mk code2 text st 35 pos hd ob fs 2 none sn none).step = mk code2 text st 35 pos pos ob fs 2 (some true) sn' none := by
  refine ⟨sn.add 1, ?_⟩
  cases ob <;> rfl
theorem b_yes {b pc p : Nat} : ∃ sn', (mk code2 text st pc p hd ob (frB b pos ob :: fs) 2 (some true) sn none).step = mk code2 text st b pos hd ob fs 1 (some true) sn' none := ⟨_, rfl⟩

/-- from the word SUCCESS the machine ends matched -/
theorem from35 {b : Nat} : ∃ m' k, Ends (mk code2 text st 35 pos hd ob (frB b s ob :: [fr1 10 s ob]) 2 none sn none) k m' ∧ k ≤ 4 ∧ Says m' (some (st, pos)) := by
  obtain ⟨sn1, e1⟩ := s35 (text := text) (st := st) (pos := pos) (hd := hd) (ob := ob) (fs := frB b s ob :: [fr1 10 s ob]) (sn := sn)
  obtain ⟨sn2, e2⟩ := b_yes (text := text) (st := st) (pos := s) (hd := pos) (ob := ob) (fs := [fr1 10 s ob]) (sn := sn1) (b := b) (pc := 35) (p := pos)
  exact ⟨_, 1 + (1 + (1 + 1)), (Ends.one rfl e1).trans ((Ends.one rfl e2).trans ((Ends.one rfl c_yes).trans (Ends.one rfl c_end))), by omega, rfl, rfl, rfl⟩
def end2 (text : Array Nat) (p : Nat) : Nat := if text.getD p 0 = 13 ∧ p + 1 < text.size ∧ text.getD (p + 1) 0 = 10 then p + 2 else p + 1
def ok2 (text : Array Nat) (p : Nat) : Bool := decide (p < text.size) && (text.getD p 0 == 10 || text.getD p 0 == 13)

theorem match2 (h : ok2 text s = true) : ∃ m' k, Ends (mk code2 text s 10 s s ob [fr1 10 s ob] 1 none sn none) k m' ∧ k ≤ 40 ∧ Says m' (some (s, end2 text s)) := by
  unfold ok2 at h
  rw [Bool.and_eq_true, decide_eq_true_eq, Bool.or_eq_true] at h
  obtain ⟨hlt, hc⟩ := h
  have hge : ¬ s ≥ text.size := by omega
  obtain ⟨sn1, e1⟩ := b_start (text := text) (st := s) (pos := s) (hd := s) (ob := ob) (fs := [fr1 10 s ob]) (sn := sn)
  obtain ⟨sn2, e2⟩ := lit12 (text := text) (st := s) (pos := s) (hd := s) (ob := ob) (fs := frB 11 s ob :: [fr1 10 s ob]) (sn := sn1)
  rw [if_neg hge] at e2
  by_cases h13 : (text.getD s 0 == 13) = true
  · rw [if_pos h13] at e2
    obtain ⟨sn3, e3⟩ := lit14 (text := text) (st := s) (pos := s + 1) (hd := s) (ob := ob) (fs := frB 11 s ob :: [fr1 10 s ob]) (sn := sn2)
    by_cases hn : s + 1 < text.size ∧ text.getD (s + 1) 0 = 10
    · rw [if_neg (by omega), if_pos (by rw [hn.2]; rfl)] at e3
      obtain ⟨sn4, e4⟩ := j16 (text := text) (st := s) (pos := s + 1 + 1) (hd := s) (ob := ob) (fs := frB 11 s ob :: [fr1 10 s ob]) (sn := sn3)
      obtain ⟨m', k, a, b, c⟩ := from35 (text := text) (st := s) (s := s) (pos := s + 1 + 1) (hd := s) (ob := ob) (sn := sn4) (b := 11)
      refine ⟨m', 1 + (1 + (1 + (1 + k))), (Ends.one rfl e1).trans ((Ends.one rfl e2).trans ((Ends.one rfl e3).trans ((Ends.one rfl e4).trans a))), by omega, ?_⟩
      rw [show end2 text s = s + 1 + 1 from if_pos ⟨by simpa using h13, hn⟩]; exact c
    · have e3' : (mk code2 text s 14 (s + 1) s ob (frB 11 s ob :: [fr1 10 s ob]) 2 none sn2 none).step = mk code2 text s 14 (s + 1) s ob (frB 11 s ob :: [fr1 10 s ob]) 2 (some false) sn3 none := by
        rw [e3]
        by_cases hq : s + 1 ≥ text.size
        · rw [if_pos hq]
        · rw [if_neg hq, if_neg (by intro z; exact hn ⟨by omega, by simpa using z⟩)]
      obtain ⟨sn4, e4⟩ := b_alt2 (text := text) (st := s) (pos := s) (hd := s) (ob := ob) (fs := [fr1 10 s ob]) (sn := sn3) (pc := 14) (p := s + 1)
      obtain ⟨sn5, e5⟩ := lit19 (text := text) (st := s) (pos := s) (hd := s) (ob := ob) (fs := frB 18 s ob :: [fr1 10 s ob]) (sn := sn4)
      rw [if_neg hge, if_neg (by have : text.getD s 0 = 13 := by simpa using h13
                                 rw [this]; decide)] at e5
      obtain ⟨sn6, e6⟩ := b_alt3 (text := text) (st := s) (pos := s) (hd := s) (ob := ob) (fs := [fr1 10 s ob]) (sn := sn5) (pc := 19) (p := s)
      obtain ⟨sn7, e7⟩ := lit24 (text := text) (st := s) (pos := s) (hd := s) (ob := ob) (fs := frB 23 s ob :: [fr1 10 s ob]) (sn := sn6)
      rw [if_neg hge, if_pos h13] at e7
      obtain ⟨sn8, e8⟩ := n26 (text := text) (st := s) (pos := s + 1) (hd := s) (ob := ob) (fs := frB 23 s ob :: [fr1 10 s ob]) (sn := sn7)
      obtain ⟨sn9, e9⟩ := lit29 (text := text) (st := s) (pos := s + 1) (hd := s + 1) (ob := false) (fs := frN 26 (s + 1) ob :: frB 23 s ob :: [fr1 10 s ob]) (sn := sn8)
      have e9' : (mk code2 text s 29 (s + 1) (s + 1) false (frN 26 (s + 1) ob :: frB 23 s ob :: [fr1 10 s ob]) 3 none sn8 none).step = mk code2 text s 29 (s + 1) (s + 1) false (frN 26 (s + 1) ob :: frB 23 s ob :: [fr1 10 s ob]) 3 (some false) sn9 none := by
        rw [e9]
        by_cases hq : s + 1 ≥ text.size
        · rw [if_pos hq]
        · rw [if_neg hq, if_neg (by intro z; exact hn ⟨by omega, by simpa using z⟩)]
      obtain ⟨sn10, e10⟩ := n_no (text := text) (st := s) (pos := s + 1) (hd := s + 1) (ob := ob) (fs := frB 23 s ob :: [fr1 10 s ob]) (sn := sn9) (pc := 29) (p := s + 1) (o := false)
      obtain ⟨sn11, e11⟩ := j32 (text := text) (st := s) (pos := s + 1) (hd := s + 1) (ob := ob) (fs := frB 23 s ob :: [fr1 10 s ob]) (sn := sn10)
      obtain ⟨m', k, a, b, c⟩ := from35 (text := text) (st := s) (s := s) (pos := s + 1) (hd := s + 1) (ob := ob) (sn := sn11) (b := 23)
      refine ⟨m', 1 + (1 + (1 + (1 + (1 + (1 + (1 + (1 + (1 + (1 + (1 + k)))))))))), (Ends.one rfl e1).trans ((Ends.one rfl e2).trans ((Ends.one rfl e3').trans ((Ends.one rfl e4).trans ((Ends.one rfl e5).trans ((Ends.one rfl e6).trans ((Ends.one rfl e7).trans ((Ends.one rfl e8).trans ((Ends.one rfl e9').trans ((Ends.one rfl e10).trans ((Ends.one rfl e11).trans a)))))))))), by omega, ?_⟩
      rw [show end2 text s = s + 1 from if_neg (fun z => hn z.2)]; exact c
  · rw [if_neg h13] at e2
    have h10 : (text.getD s 0 == 10) = true := hc.resolve_right h13
    obtain ⟨sn4, e4⟩ := b_alt2 (text := text) (st := s) (pos := s) (hd := s) (ob := ob) (fs := [fr1 10 s ob]) (sn := sn2) (pc := 12) (p := s)
    obtain ⟨sn5, e5⟩ := lit19 (text := text) (st := s) (pos := s) (hd := s) (ob := ob) (fs := frB 18 s ob :: [fr1 10 s ob]) (sn := sn4)
    rw [if_neg hge, if_pos h10] at e5
    obtain ⟨sn6, e6⟩ := j21 (text := text) (st := s) (pos := s + 1) (hd := s) (ob := ob) (fs := frB 18 s ob :: [fr1 10 s ob]) (sn := sn5)
    obtain ⟨m', k, a, b, c⟩ := from35 (text := text) (st := s) (s := s) (pos := s + 1) (hd := s) (ob := ob) (sn := sn6) (b := 18)
    refine ⟨m', 1 + (1 + (1 + (1 + (1 + k)))), (Ends.one rfl e1).trans ((Ends.one rfl e2).trans ((Ends.one rfl e4).trans ((Ends.one rfl e5).trans ((Ends.one rfl e6).trans a)))), by omega, ?_⟩
    rw [show end2 text s = s + 1 from if_neg (fun z => h13 (by rw [z.1]; rfl))]; exact c
end
end Rx
end Mine
end

section
open PySem PySem.W PySem.Calls PyProof.Rows
namespace Mine
namespace Rx
open PySem.Sre PySem.Builtin.Re
def nx1 (text : Array Nat) (s : Nat) : Option (Nat × Nat) := (findOk (ok1 text) (text.size - s + 1) s).map fun p => (p, p + 1)
def nx2 (text : Array Nat) (s : Nat) : Option (Nat × Nat) := (findOk (ok2 text) (text.size - s + 1) s).map fun p => (p, end2 text p)
/-- the search of this code over this text, from any place on -/
def Finds (code text : Array Nat) (nx : Nat → Option (Nat × Nat)) : Prop :=
  ∀ s, s ≤ text.size → ∃ m' k, Ends (forSearch code text 0 s text.size false) k m' ∧ k ≤ 8 * (text.size + 10) ∧ Says m' (nx s)

theorem findOk_none {ok : Nat → Bool} : ∀ (n s : Nat), (∀ i, s ≤ i → i < s + n → ok i = false) → findOk ok n s = none
  | 0, _, _ => rfl
  | n + 1, s, h => by
    show (if ok s then some s else findOk ok n (s + 1)) = none
    rw [h s (by omega) (by omega)]
    exact findOk_none n (s + 1) fun i a b => h i (by omega) (by omega)
theorem fs1 {text : Array Nat} {s : Nat} : forSearch code1 text 0 s text.size false =
    if (decide (s > text.size) || decide (text.size - s < 1)) = true then { mk code1 text s 5 s s true [] 0 (some false) (({} : Sre.Seen).add 14) none with lastStart := 0 } else mk code1 text s 5 s s true [fr1 5 s true] 1 none (({} : Sre.Seen).add 14) none := rfl
theorem finds1 (text : Array Nat) : Finds code1 text (nx1 text) := by
  intro s hs
  rw [fs1]
  by_cases h : text.size - s < 1
  · rw [if_pos (by rw [decide_eq_true h]; simp)]
    refine ⟨_, 1, Ends.one rfl rfl, by omega, ?_⟩
    have : nx1 text s = none := by
      unfold nx1
      rw [findOk_none]; rfl
      intro i a b
      unfold ok1
      rw [decide_eq_false (by omega : ¬ i < text.size)]; simp
    rw [this]; rfl
  · rw [if_neg (by rw [decide_eq_false h, decide_eq_false (by omega)]; simp)]
    obtain ⟨m', k, a, b, c⟩ := search1 (text := text) (text.size - s) s true (({} : Sre.Seen).add 14) (by omega)
    exact ⟨m', k, a, by omega, c⟩

theorem inSet2 {c : Nat} {sn : Sre.Seen} : ∃ sn', inSet code2 c code2.size 5 true sn = .ok (c == 10 || c == 13, sn') := by
  by_cases h1 : (c == 10) = true
  · refine ⟨sn.add 16, ?_⟩
    show (if (c == 10) = true then _ else _) = _
    rw [if_pos h1, h1]; rfl
  · by_cases h2 : (c == 13) = true
    · refine ⟨(sn.add 16).add 16, ?_⟩
      show (if (c == 10) = true then _ else (if (c == 13) = true then _ else _)) = _
      rw [if_neg h1, if_pos h2, h2, Bool.eq_false_iff.mpr h1]; rfl
    · refine ⟨((sn.add 16).add 16).add 0, ?_⟩
      show (if (c == 10) = true then _ else (if (c == 13) = true then _ else _)) = _
      rw [if_neg h1, if_neg h2, Bool.eq_false_iff.mpr h2, Bool.eq_false_iff.mpr h1]; rfl
theorem admitted2 {text : Array Nat} {m : M} (hc : m.code = code2) (ht : m.text = text) (hl : m.lim = text.size) : ∀ (n s : Nat) (sn : Sre.Seen), s + n = text.size + 1 →
    ∃ sn', M.admitted m n s sn = .ok (findOk (ok2 text) n s, sn')
  | 0, s, sn, _ => ⟨sn, rfl⟩
  | n + 1, s, sn, h => by
    unfold M.admitted
    by_cases hge : s ≥ m.lim
    · rw [if_pos hge]
      refine ⟨sn, ?_⟩
      rw [findOk_none]
      intro i a b
      unfold ok2
      rw [decide_eq_false (by omega : ¬ i < text.size)]; rfl
    · rw [if_neg hge, hc, ht]
      obtain ⟨sn1, e1⟩ := inSet2 (c := text.getD s 0) (sn := sn)
      rw [e1]
      have ho : ok2 text s = (text.getD s 0 == 10 || text.getD s 0 == 13) := by
        unfold ok2; rw [decide_eq_true (by omega : s < text.size), Bool.true_and]
      cases hb : (text.getD s 0 == 10 || text.getD s 0 == 13) with
      | true =>
        refine ⟨sn1, ?_⟩
        show _ = Except.ok ((if ok2 text s then some s else _), _)
        rw [ho, hb]; rfl
      | false =>
        obtain ⟨sn2, e2⟩ := admitted2 hc ht hl n (s + 1) sn1 (by omega)
        refine ⟨sn2, ?_⟩
        show M.admitted m n (s + 1) sn1 = Except.ok ((if ok2 text s then some s else findOk (ok2 text) n (s + 1)), _)
        rw [ho, hb, e2]; rfl
abbrev m2 (text : Array Nat) (s : Nat) : M := { mk code2 text s 10 s s true [] 0 none (({} : Sre.Seen).add 14) none with lastStart := text.size }
theorem fs2 {text : Array Nat} {s : Nat} : forSearch code2 text 0 s text.size false =
    if (decide (s > text.size) || decide (text.size - s < 1)) = true then { mk code2 text s 10 s s true [] 0 (some false) (({} : Sre.Seen).add 14) none with lastStart := 0 } else
      (match M.admitted (m2 text s) (text.size + 1 - s) s (({} : Sre.Seen).add 14) with
       | .ok (some q, seen) => mk code2 text q 10 q q true [fr1 10 q true] 1 none seen none
       | .ok (none, seen) => mk code2 text s 10 s s true [] 0 (some false) seen none
       | .error why => (m2 text s).stick why) := by
  by_cases h : (decide (s > text.size) || decide (text.size - s < 1)) = true
  · rw [if_pos h]
    show (if (decide (s > text.size) || decide (text.size - s < 1)) = true then _ else _) = _
    rw [if_pos h]; rfl
  · rw [if_neg h]
    show (if (decide (s > text.size) || decide (text.size - s < 1)) = true then _ else (match M.admitted (m2 text s) (text.size + 1 - s) s (({} : Sre.Seen).add 14) with | .ok (some s, seen) => _ | .ok (none, seen) => _ | .error why => _)) = _
    rw [if_neg h]
    cases M.admitted (m2 text s) (text.size + 1 - s) s (({} : Sre.Seen).add 14) with
    | error why => rfl
    | ok p => obtain ⟨q, seen⟩ := p; cases q <;> rfl
theorem findOk_some {ok : Nat → Bool} {p : Nat} : ∀ (n s : Nat), findOk ok n s = some p → ok p = true ∧ s ≤ p ∧ p < s + n ∧ ∀ i, s ≤ i → i < p → ok i = false
  | 0, _, h => nomatch h
  | n + 1, s, h => by
    have h' : (if ok s then some s else findOk ok n (s + 1)) = some p := h
    cases ho : ok s with
    | true => rw [ho] at h'; cases h'; exact ⟨ho, by omega, by omega, fun i a b => by omega⟩
    | false =>
      rw [ho] at h'
      obtain ⟨a, b, c, d⟩ := findOk_some n (s + 1) h'
      refine ⟨a, by omega, by omega, fun i x y => ?_⟩
      by_cases q : i = s
      · rw [q]; exact ho
      · exact d i (by omega) y
theorem finds2 (text : Array Nat) : Finds code2 text (nx2 text) := by
  intro s hs
  rw [fs2]
  by_cases h : text.size - s < 1
  · rw [if_pos (by rw [decide_eq_true h]; simp)]
    refine ⟨_, 1, Ends.one rfl rfl, by omega, ?_⟩
    have : nx2 text s = none := by
      unfold nx2
      rw [findOk_none]; rfl
      intro i a b
      unfold ok2
      rw [decide_eq_false (by omega : ¬ i < text.size)]; simp
    rw [this]; rfl
  · rw [if_neg (by rw [decide_eq_false h, decide_eq_false (by omega)]; simp)]
    obtain ⟨sn', e⟩ := admitted2 (text := text) (m := m2 text s) rfl rfl rfl (text.size + 1 - s) s (({} : Sre.Seen).add 14) (by omega)
    rw [e]
    have hf : text.size + 1 - s = text.size - s + 1 := by omega
    rw [hf]
    cases hq : findOk (ok2 text) (text.size - s + 1) s with
    | none =>
      refine ⟨_, 1, Ends.one rfl rfl, by omega, ?_⟩
      unfold nx2; rw [hq]; rfl
    | some q =>
      obtain ⟨m', k, a, b, c⟩ := match2 (text := text) (s := q) (ob := true) (sn := sn') (findOk_some _ _ hq).1
      refine ⟨m', k, a, by omega, ?_⟩
      unfold nx2; rw [hq]; exact c

section
variable {M : Model} {A : Around} {E : Value → Shared → Prop} {s : Shared}
theorem drive {Q : Sre.M → Shared → Prop} {m' : Sre.M} (ho : m'.outcome.isSome = true) (h : Q m' s) : ∀ (n : Nat) (m : Sre.M) (k : Nat), Ends m k m' → k < 4 * n → wpAny M A (reDrive n m) Q E s
  | 0, m, k, e, hk => by
    exfalso; omega
  | n + 1, m, k, e, hk => by
    show wpAny M A (if (m.runFor 4).outcome.isSome then pure (m.runFor 4) else (rule "sre.turn" >>= fun _ => reDrive n (m.runFor 4))) Q E s
    by_cases h4 : (m.runFor 4).outcome.isSome = true
    · rw [if_pos h4]
      have : m.runFor 4 = m' := by
        unfold Ends at e
        by_cases hk4 : k ≤ 4
        · have q : 4 = k + (4 - k) := by omega
          rw [q, runFor_add, e, runFor_done ho]
        · have q : k = 4 + (k - 4) := by omega
          rw [q, runFor_add, runFor_done h4] at e; exact e
      rw [this]; exact wpAny_pure h
    · rw [if_neg h4]
      have hk4 : 4 < k := by
        refine Nat.lt_of_not_le fun hle => h4 ?_
        have q : 4 = k + (4 - k) := by omega
        unfold Ends at e
        rw [q, runFor_add, e, runFor_done ho]; exact ho
      refine wpAny_bind (wpAny_rule ?_)
      refine drive ho h n _ (k - 4) ?_ (by omega)
      unfold Ends at *
      have q : k = 4 + (k - 4) := by omega
      rw [q, runFor_add] at e; exact e
theorem runToEnd {Q : Option Sre.M → Shared → Prop} {m m' : Sre.M} {k : Nat} {r : Option (Nat × Nat)} (e : Ends m k m') (hk : k ≤ 2 ^ 60) (hs : Says m' r)
    (hN : r = none → Q none s) (hS : ∀ a b, r = some (a, b) → ∀ m'', m''.start = a → m''.handed = b → Q (some m'') s) : wpAny M A (reRunToEnd m) Q E s := by
  unfold reRunToEnd
  have ho : m'.outcome.isSome = true := by
    cases r with
    | none => rw [show m'.outcome = some .failed from hs]; rfl
    | some p => obtain ⟨a, b⟩ := p; rw [hs.1]; rfl
  refine wpAny_bind (drive ho ?_ _ m k e (by omega))
  refine wpAny_bind (wpAny_forIn_list _ (fun _ _ s' => s' = s) _ (fun i rest b s' he => ?_) (fun b s' he => ?_) _ _ rfl)
  · subst he
    split
    · exact wpAny_bind (wpAny_rule (wpAny_pure rfl))
    · exact wpAny_pure rfl
  · subst he
    cases r with
    | none => rw [show m'.outcome = some .failed from hs]; exact wpAny_pure (hN rfl)
    | some p => obtain ⟨a, b⟩ := p; rw [hs.1]; exact wpAny_pure (hS a b rfl m' hs.2.1 hs.2.2)
end
end Rx
end Mine
end

section
open PySem PySem.W PySem.Calls PyProof.Rows
set_option maxRecDepth 100000
namespace Mine
namespace Rx
open PySem.Sre PySem.Builtin PySem.Builtin.Re
theorem plain_sub : plainId "re.Pattern.sub" = true := by decide +kernel
theorem plain_loop : plainId "re.Pattern.sub.loop" = true := by decide +kernel
theorem entry_sub : entryFor table "re.Pattern.sub" = some Builtin.«re.Pattern.sub» := entryFor_of_tree (by kernel_rfl)
theorem entry_loop : entryFor table "re.Pattern.sub.loop" = some Builtin.«re.Pattern.sub.loop» := entryFor_of_tree (by kernel_rfl)
theorem plainAttrs_pat : PlainAttrs "re.Pattern" :=
  ⟨⟨"object.__getattribute__", by rw [typeLookup_type, builtinLookup_eq_fast]; kernel_rfl, by decide +kernel⟩, by rw [typeLookup_type, builtinLookup_eq_fast]; kernel_rfl⟩
theorem slot_sub : Slot "re.Pattern" "sub" "re.Pattern.sub" :=
  .of (owner := "re.Pattern") (n := "sub") (by rw [typeLookup_type, builtinLookup_eq_fast]; kernel_rfl) (by decide +kernel) (by decide +kernel) (by decide +kernel)
    (by first | exact .inl (by decide +kernel) | exact .inr (by decide +kernel)) (by rw [isSubtype_type]; kernel_rfl)
theorem type_sub : typeOf (.builtin "re.Pattern.sub") = pure (.type "method_descriptor") := by show builtinType _ = _; rw [builtinType_eq_fast]; kernel_rfl
theorem args_sub_3 (a b c : Value) : argsOk "re.Pattern.sub" ⟨[a, b, c], []⟩ := by
  unfold argsOk; kernel_rfl
theorem str_call : typeLookup (.type "str") "__call__" = pure none := by rw [typeLookup_type, builtinLookup_eq_fast]; kernel_rfl

/-- a compiled pattern of no groups over texts -/
def IsPat (h : Heap) (p : Addr) (code : Array Nat) : Prop :=
  ∃ o vs c oc items n, h.get? p = some o ∧ o.cls = .type "re.Pattern" ∧ o.dict = none ∧ o.data = .fields vs ∧ vs.getD 5 .none = .ref c ∧ h.get? c = some oc ∧ oc.data = .seq items n ∧
    (items.map reRawOf).map (·.toNat) = code ∧ reRawNat (vs.getD 6 .none) = 0 ∧ reRawNat (vs.getD 2 .none) = 0
theorem IsPat.keeps {h h' : Heap} {p : Addr} {code : Array Nat} (x : IsPat h p code) (k : ∀ b o, h.get? b = some o → h'.get? b = some o) : IsPat h' p code :=
  let ⟨o, vs, c, oc, items, n, a, a1, a2, b, d, e, r⟩ := x; ⟨o, vs, c, oc, items, n, k _ _ a, a1, a2, b, d, k _ _ e, r⟩
section
variable {M : Model} {A : Around} {E : Value → Shared → Prop} {s : Shared} {p : Addr} {code : Array Nat} {x y : PySem.Str} {t u : Tok}
theorem wholeTarget {Q : ReTarget → Shared → Prop} (hp : IsPat s.heap p code) (h : Q ⟨.ref p, .str x t, code, x.cps, 0, 0, 0, x.cps.size⟩ s) : wpAny M A (reWholeTarget (.ref p) (.str x t)) Q E s := by
  obtain ⟨o, vs, c, oc, items, n, a, a1, a2, b, d, e, f, g, w6, w2⟩ := hp
  unfold reWholeTarget
  refine wpAny_bind (wpAny_fieldsOf a b ?_)
  show wpAny M A (pure (x.cps, 0) >>= fun r => _) Q E s
  refine wpAny_bind (wpAny_pure ?_)
  dsimp only
  rw [w6, w2, d]
  show wpAny M A (do let v ← reRawItems (.ref c); _) Q E s
  unfold reRawItems
  refine wpAny_bind (wpAny_bind (wpAny_seqItems e f ?_))
  refine wpAny_pure (wpAny_pure ?_)
  show Q ⟨.ref p, .str x t, (items.map reRawOf).map (·.toNat), x.cps, 0, 0, 0, x.cps.size⟩ s
  rw [g]; exact h
end

/-- what sub makes of a text from the place d on -/
def subGo (text : Array Nat) (repl : List Nat) (nx : Nat → Option (Nat × Nat)) : Nat → Nat → List Nat
  | 0, d => (text.extract d text.size).toList
  | n + 1, d => match nx d with
    | none => (text.extract d text.size).toList
    | some (a, b) => (text.extract d a).toList ++ repl ++ subGo text repl nx n b
/-- the found places lie in order -/
def Ordered (text : Array Nat) (nx : Nat → Option (Nat × Nat)) : Prop := ∀ d a b, nx d = some (a, b) → d ≤ a ∧ a < b ∧ b ≤ text.size

theorem strsAre_snoc {vs : List Value} {ys : List PySem.Str} (h : StrsAre vs ys) (y : PySem.Str) (t : Tok) : StrsAre (vs ++ [.str y t]) (ys ++ [y]) := by
  induction h with
  | nil => exact .cons y t .nil
  | cons z u _ ih => exact .cons z u ih
theorem strsAre_nil {ys : List PySem.Str} (h : StrsAre [] ys) : ys = [] := by cases h; rfl
theorem glued_nil (ys : List PySem.Str) : (Txt.join ⟨#[]⟩ ys).cps.toList = (ys.map (·.cps.toList)).flatten := by
  have key : ∀ (l : List PySem.Str) (a : Array Nat), (l.foldl (fun acc p => acc ++ (⟨#[]⟩ : PySem.Str).cps ++ p.cps) a).toList = a.toList ++ (l.map (·.cps.toList)).flatten := by
    intro l
    induction l with
    | nil => intro a; simp
    | cons y r ih => intro a; rw [List.foldl_cons, ih]; simp
  cases ys with
  | nil => rfl
  | cons y r =>
    show (r.foldl (fun acc p => acc ++ (⟨#[]⟩ : PySem.Str).cps ++ p.cps) y.cps).toList = _
    rw [key]; simp
def pileLen (ys : List PySem.Str) : Nat := (ys.map (·.length)).sum
theorem pileLen_snoc (ys : List PySem.Str) (y : PySem.Str) : pileLen (ys ++ [y]) = pileLen ys + y.length := by simp [pileLen]
def pile (ys : List PySem.Str) : List Nat := (ys.map (·.cps.toList)).flatten
theorem pile_snoc (ys : List PySem.Str) (y : PySem.Str) : pile (ys ++ [y]) = pile ys ++ y.cps.toList := by simp [pile]

section
variable {prog : Program} {w : World} {A : Around} {s : Shared} {p l : Addr} {code : Array Nat} {x y : PySem.Str} {t u : Tok} {nx : Nat → Option (Nat × Nat)}
/-- a push onto the pieces -/
theorem pushPiece {M : Model} {E : Value → Shared → Prop} {vs : Array Value} {v : Value} {Q : Unit → Shared → Prop} (hl : s.heap.IsList l vs) (hz : vs.size < 1000000)
    (h : ∀ h', h'.IsList l (vs.push v) → Heap.SameBut l s.heap h' → Q () { s with heap := h' }) : wpAny M A (updateSeq l (·.push v)) Q E s := by
  obtain ⟨o, ho, hc, n, hd⟩ := hl
  refine wpAny_updateSeq ho hd (h _ ?_ (Heap.SameBut.update ..)) (by rw [sizeLine_eq]; omega) (by rw [sizeLine_eq]; simp only [Array.size_push]; omega)
  obtain ⟨c, d, dt, sl⟩ := o
  simp only at hd hc; subst hd hc
  exact ⟨_, Heap.get?_update_self _ ho rfl, rfl, _, rfl⟩

def tailK (x : PySem.Str) (l : Addr) : Sem PySem.Fin :=
  reSlice x.cps 0 0 0 >>= fun joiner => seqItems? (.ref l) >>= fun it => if (it.getD #[]).isEmpty = true then (pure joiner >>= fun text => ret text) else (call (.builtin "str.join") [joiner, .ref l] >>= fun text => ret text)
def foundK (p : Addr) (x : PySem.Str) (t : Tok) (y : PySem.Str) (u : Tok) (k : Nat) (m : Sre.M) (l : Addr) : Sem PySem.Fin :=
  updateSeq l (·.push (.str y u)) >>= fun _ => again (.builtin "re.Pattern.sub.loop" ⟨[.ref p, .str x t, .str y u, rawInt 0, rawInt 0, rawInt (k + 1 : Nat), rawInt m.handed, rawInt m.handed, .bool (m.handed == m.start), .ref l, .bool false], []⟩)
theorem tail_ends {A₁ : Around} {R : Result → Shared → Prop} {E : Value → Shared → Prop} {vs : Array Value} {ys : List PySem.Str} (hl : s.heap.IsList l vs) (hs : StrsAre vs.toList ys) (hw : pileLen ys + ys.length ≤ 1000000)
    (h : ∀ t' tk, R (.ok (.ret (.str ⟨(pile ys).toArray⟩ t'))) { s with toks := tk }) :
    wpAny (model prog w) A₁ (tailK x l) (fun fin s' => match fin with | .done f => R (.ok f) s' | .again c' => c'.quiet = true ∧ codeAny (model prog w) A c' R s') E s := by
  unfold tailK
  show wpAny _ _ (mkStr ⟨x.cps.extract 0 0⟩ >>= fun v => _) _ _ s
  have e0 : x.cps.extract 0 0 = #[] := by simp
  rw [e0]
  refine wpAny_bind (wpAny_mkStr ?_ (by decide))
  obtain ⟨o, ho, hc, n, hd⟩ := hl
  refine wpAny_bind (wpAny_seqItems ho hd ?_)
  rw [Option.getD_some]
  by_cases he : vs.isEmpty = true
  · rw [if_pos he]
    refine wpAny_bind (wpAny_pure (wpAny_pure ?_))
    obtain rfl : vs = #[] := by simpa using he
    obtain rfl := strsAre_nil hs
    exact h _ _
  · rw [if_neg he]
    refine wpAny_bind (join_listW (s := { s with toks := s.toks + 1 }) (items := vs) (ys := ys) ⟨o, ho, hc, n, hd⟩ hs (by decide) (by show pileLen ys + _ ≤ _; omega) (fun t' tk => wpAny_pure ?_))
    have e : Txt.join ⟨#[]⟩ ys = ⟨(pile ys).toArray⟩ := by
      have := glued_nil ys
      unfold pile
      rw [← this]
    rw [e]
    exact h _ _
theorem subLoop {R : Result → Shared → Prop} (hx : x.cps.size ≤ 100000) (hy : y.length ≤ 2) (hf : Finds code x.cps nx) (ho : Ordered x.cps nx) :
    ∀ (n d : Nat) (k : Nat) (vs : Array Value) (ys : List PySem.Str) (s : Shared), x.cps.size - d < n → d ≤ x.cps.size → IsPat s.heap p code → (∀ q, q ≠ l → True) →
      (∀ h', Heap.SameBut l s.heap h' → IsPat h' p code) →
      s.heap.IsList l vs → StrsAre vs.toList ys → ys.length ≤ 2 * d → pileLen ys ≤ 3 * d →
      (∀ h' tk t', Heap.SameBut l s.heap h' → R (.ok (.ret (.str ⟨(pile ys ++ subGo x.cps y.cps.toList nx n d).toArray⟩ t'))) { s with heap := h', toks := tk }) →
      codeAny (model prog w) A (.builtin "re.Pattern.sub.loop" ⟨[.ref p, .str x t, .str y u, rawInt 0, rawInt 0, rawInt k, rawInt d, rawInt d, .bool false, .ref l, .bool false], []⟩) R s := by
  intro n
  induction n with
  | zero => intro d k vs ys s h; exact absurd h (Nat.not_lt_zero _)
  | succ n ih =>
    intro d k vs ys s hn hd hp _ hpk hl hs hlen hpl hR
    have hvs : vs.size = ys.length := by
      have : ∀ {vs : List Value} {ys : List PySem.Str}, StrsAre vs ys → vs.length = ys.length := by
        intro vs ys h
        induction h with
        | nil => rfl
        | cons y t _ ih => simp [ih]
      rw [← this hs, Array.length_toList]
    refine codeAny_builtin entry_loop ?_
    show wpAny _ _ (reWholeTarget (.ref p) (.str x t) >>= fun r => _) _ _ s
    refine wpAny_bind (wholeTarget hp ?_)
    show wpAny _ _ (reLiteralCannotBeTurned (.str y u) >>= fun _ => _) _ _ s
    refine wpAny_bind (wpAny_of_eq (show reLiteralCannotBeTurned (.str y u) = pure () from rfl) ?_)
    show wpAny _ _ (reNextFound ⟨.ref p, .str x t, code, x.cps, 0, 0, 0, x.cps.size⟩ d false >>= fun r => _) _ _ s
    obtain ⟨m', kk, e, hk, hsy⟩ := hf d hd
    refine wpAny_bind (runToEnd e (by omega) hsy (fun hnx => ?_) (fun a b hnx m'' h1 h2 => ?_))
    · have hgo : subGo x.cps y.cps.toList nx (n + 1) d = (x.cps.extract d x.cps.size).toList := by
        show (match nx d with | none => _ | some (a, b) => _) = _
        rw [hnx]
      rw [hgo] at hR
      show wpAny _ _ (if d < x.cps.size then (reSlice x.cps 0 d x.cps.size >>= fun v => updateSeq l (·.push v) >>= fun _ => tailK x l) else tailK x l) _ _ s
      by_cases hlt : d < x.cps.size
      · rw [if_pos hlt]
        show wpAny _ _ (mkStr ⟨x.cps.extract d x.cps.size⟩ >>= fun v => _) _ _ s
        refine wpAny_bind (wpAny_mkStr ?_ (by show (x.cps.extract d x.cps.size).size ≤ _; rw [sizeLine_eq, Array.size_extract]; omega))
        refine wpAny_bind (pushPiece (s := { s with toks := s.toks + 1 }) hl (by omega) (fun h' hl' hsb => ?_))
        have hs' : StrsAre (vs.push (.str ⟨x.cps.extract d x.cps.size⟩ s.toks)).toList (ys ++ [⟨x.cps.extract d x.cps.size⟩]) := by
          rw [Array.toList_push]; exact strsAre_snoc hs _ _
        have hle : (⟨x.cps.extract d x.cps.size⟩ : PySem.Str).length = x.cps.size - d := by
          show (x.cps.extract d x.cps.size).size = _
          rw [Array.size_extract]; omega
        refine tail_ends (R := R) (s := { s with heap := h', toks := s.toks + 1 }) hl' hs' (by rw [pileLen_snoc, hle, List.length_append, List.length_singleton]; omega) (fun t' tk => ?_)
        have := hR h' tk t' hsb
        rw [pile_snoc]
        exact this
      · rw [if_neg hlt]
        refine tail_ends (R := R) hl hs (by omega) (fun t' tk => ?_)
        have := hR s.heap tk t' (Heap.SameBut.refl ..)
        have e0 : (x.cps.extract d x.cps.size).toList = [] := by simp; omega
        rw [e0, List.append_nil] at this
        exact this
    · obtain ⟨o1, o2, o3⟩ := ho d a b hnx
      have hgo : subGo x.cps y.cps.toList nx (n + 1) d = (x.cps.extract d a).toList ++ y.cps.toList ++ subGo x.cps y.cps.toList nx n b := by
        show (match nx d with | none => _ | some (a, b) => _) = _
        rw [hnx]
      rw [hgo] at hR
      have hmust : (m''.handed == m''.start) = false := by rw [h1, h2]; exact beq_eq_false_iff_ne.mpr (by omega)
      show wpAny _ _ (if d < m''.start then (reSlice x.cps 0 d m''.start >>= fun v => updateSeq l (·.push v) >>= fun _ => foundK p x t y u k m'' l) else foundK p x t y u k m'' l) _ _ s
      rw [h1]
      have next : ∀ (vs : Array Value) (ys : List PySem.Str) (s : Shared), vs.size = ys.length → ys.length ≤ 2 * d + 1 → pileLen ys ≤ 3 * d + (a - d) → IsPat s.heap p code → (∀ h', Heap.SameBut l s.heap h' → IsPat h' p code) → s.heap.IsList l vs → StrsAre vs.toList ys →
          (∀ h' tk t', Heap.SameBut l s.heap h' → R (.ok (.ret (.str ⟨(pile ys ++ y.cps.toList ++ subGo x.cps y.cps.toList nx n b).toArray⟩ t'))) { s with heap := h', toks := tk }) →
          wpAny (model prog w) (A.under (.builtin "re.Pattern.sub.loop" ⟨[.ref p, .str x t, .str y u, rawInt 0, rawInt 0, rawInt k, rawInt d, rawInt d, .bool false, .ref l, .bool false], []⟩)) (foundK p x t y u k m'' l)
            (fun fin s' => match fin with | .done f => R (.ok f) s' | .again c' => c'.quiet = true ∧ codeAny (model prog w) A c' R s') (fun e s' => R (.error e) s') s := by
        intro vs ys s hvs hlen hpl hp hpk hl hs hR
        unfold foundK
        refine wpAny_bind (pushPiece hl (by omega) (fun h' hl' hsb => ?_))
        refine wpAny_pure ⟨plainId_quiet plain_loop _, ?_⟩
        rw [hmust, h2]
        refine ih b (k + 1) _ (ys ++ [y]) { s with heap := h' } (by omega) o3 (hpk _ hsb) (fun _ _ => trivial) (fun h'' hsb' => hpk _ (hsb.trans hsb')) hl' (by rw [Array.toList_push]; exact strsAre_snoc hs _ _) (by rw [List.length_append, List.length_singleton]; omega)
          (by rw [pileLen_snoc]; omega) (fun h'' tk t' hsb' => ?_)
        rw [pile_snoc]
        exact hR h'' tk t' (hsb.trans hsb')
      by_cases hlt : d < a
      · rw [if_pos hlt]
        show wpAny _ _ (mkStr ⟨x.cps.extract d a⟩ >>= fun v => _) _ _ s
        refine wpAny_bind (wpAny_mkStr ?_ (by show (x.cps.extract d a).size ≤ _; rw [sizeLine_eq, Array.size_extract]; omega))
        refine wpAny_bind (pushPiece (s := { s with toks := s.toks + 1 }) hl (by omega) (fun h' hl' hsb => ?_))
        have hle : (⟨x.cps.extract d a⟩ : PySem.Str).length = a - d := by
          show (x.cps.extract d a).size = _
          rw [Array.size_extract]; omega
        refine next _ (ys ++ [⟨x.cps.extract d a⟩]) _ (by rw [Array.size_push, List.length_append, List.length_singleton]; omega) (by rw [List.length_append, List.length_singleton]; omega) (by rw [pileLen_snoc, hle]; omega) (hpk _ hsb) (fun h'' hsb' => hpk _ (hsb.trans hsb')) hl' (by rw [Array.toList_push]; exact strsAre_snoc hs _ _) (fun h'' tk t' hsb' => ?_)
        have := hR h'' tk t' (hsb.trans hsb')
        rw [pile_snoc]
        simpa only [List.append_assoc] using this
      · rw [if_neg hlt]
        refine next vs ys s hvs (by omega) (by omega) hp hpk hl hs (fun h'' tk t' hsb' => ?_)
        have := hR h'' tk t' hsb'
        have e0 : (x.cps.extract d a).toList = [] := by simp; omega
        rw [e0, List.nil_append, ← List.append_assoc] at this
        exact this
end
end Rx
end Mine
end

section
open PySem PySem.W PySem.Calls PyProof.Rows
set_option maxRecDepth 100000
namespace Mine
namespace Rx
open PySem.Sre PySem.Builtin PySem.Builtin.Re
theorem named_eq (a b : Value) : reNamed "re.Pattern.sub" "sub" ["repl", "string", "count"] 2 [a, b] [] = pure [some a, some b, none] := by kernel_rfl
theorem str_special {y : PySem.Str} {u : Tok} : specialOf (.str y u) "__call__" = pure none := by
  have e : specialOf (.str y u) "__call__" = typeLookup (.type "str") "__call__" := rfl
  rw [e, str_call]
section
variable {prog : Program} {w : World} {A : Around} {s : Shared} {p : Addr} {code : Array Nat} {x y : PySem.Str} {t u : Tok} {nx : Nat → Option (Nat × Nat)} {E : Value → Shared → Prop} {Q : Value → Shared → Prop}
theorem getSub {M : Model} {pl : Sem Bool} {Q : Value × List Value → Shared → Prop} (hp : IsPat s.heap p code) (h : Q (.builtin "re.Pattern.sub", [.ref p]) s) : wpAny M A (getMethod (.ref p) "sub" pl) Q E s := by
  obtain ⟨o, vs, c, oc, items, n, a, a1, a2, r⟩ := hp
  exact getMethod_builtin (T := "re.Pattern") ⟨o, a, a1⟩ plainAttrs_pat slot_sub type_sub (fun b e => by cases e; exact ⟨o, a, a2⟩) h
theorem call_sub (hx : x.cps.size ≤ 100000) (hy : y.length ≤ 2) (hb : y.cps.contains 92 = false) (hf : Finds code x.cps nx) (ho : Ordered x.cps nx) (hp : IsPat s.heap p code)
    (h : ∀ h' tk t', (∀ b o, s.heap.get? b = some o → h'.get? b = some o) → Q (.str ⟨(subGo x.cps y.cps.toList nx (x.cps.size + 1) 0).toArray⟩ t') { s with heap := h', toks := tk }) :
    wpAny (model prog w) A (call (.builtin "re.Pattern.sub") [.ref p, .str y u, .str x t]) Q E s := by
  have hT : s.TypeIs (.ref p) "re.Pattern" := by
    obtain ⟨o, vs, c, oc, items, n, a, a1, r⟩ := hp
    exact ⟨o, a, a1⟩
  refine wpAny_call (codeAny_call_builtin slot_sub.plain entry_sub (slot_sub.check _ _ _ _ _ _ _ _ hT (args_sub_3 _ _ _) ?_))
  show wpAny _ _ (reNamed "re.Pattern.sub" "sub" ["repl", "string", "count"] 2 [.str y u, .str x t] [] >>= fun r => _) _ _ s
  rw [named_eq]
  refine wpAny_bind (wpAny_pure ?_)
  show wpAny _ _ ((pure 0 : Sem Int) >>= fun r => _) _ _ s
  refine wpAny_bind (wpAny_pure ?_)
  show wpAny _ _ (specialOf (.str y u) "__call__" >>= fun r => _) _ _ s
  rw [str_special]
  refine wpAny_bind (wpAny_pure ?_)
  show wpAny _ _ (if false = true then _ else _) _ _ s
  rw [if_neg Bool.false_ne_true]
  show wpAny _ _ ((pure (some y) : Sem (Option PySem.Str)) >>= fun r => _) _ _ s
  refine wpAny_bind (wpAny_pure ?_)
  show wpAny _ _ ((pure (!y.cps.contains 92) : Sem Bool) >>= fun r => _) _ _ s
  rw [hb]
  refine wpAny_bind (wpAny_pure ?_)
  show wpAny _ _ ((pure (Value.str y u, (0 : Int)) : Sem (Value × Int)) >>= fun r => _) _ _ s
  refine wpAny_bind (wpAny_pure ?_)
  show wpAny _ _ (holding [.str y u] (reWholeTarget (.ref p) (.str x t)) >>= fun r => _) _ _ s
  refine wpAny_bind (wpAny_holding (wholeTarget hp ?_))
  show wpAny _ _ (newList [] >>= fun l => again (.builtin "re.Pattern.sub.loop" ⟨[.ref p, .str x t, .str y u, rawInt 0, rawInt 0, rawInt 0, rawInt 0, rawInt 0, .bool false, l, .bool false], []⟩)) _ _ s
  refine wpAny_bind (wpAny_newList ?_ (by decide))
  refine wpAny_pure ⟨plainId_quiet plain_loop _, ?_⟩
  have hk : ∀ b o, s.heap.get? b = some o → (s.heap.push { cls := .type "list", data := .seq #[] }).get? b = some o := fun b o e => Heap.get?_push_of_some _ e
  have hne : ∀ b o, s.heap.get? b = some o → b ≠ s.heap.objs.size := fun b o e => Nat.ne_of_lt (Heap.lt_size e)
  have hsb : ∀ h', Heap.SameBut s.heap.objs.size (s.heap.push { cls := .type "list", data := .seq #[] }) h' → ∀ b o, s.heap.get? b = some o → h'.get? b = some o :=
    fun h' x b o e => (x.2 b (hne b o e)).trans (hk b o e)
  refine subLoop (l := s.heap.objs.size) (nx := nx) (s := { s with heap := s.heap.push { cls := .type "list", data := .seq #[] } }) hx hy hf ho (x.cps.size + 1) 0 0 #[] [] (by omega) (Nat.zero_le _) (hp.keeps hk) (fun _ _ => trivial) (fun h' x => hp.keeps (hsb h' x))
    ⟨_, Heap.get?_push_size _ rfl, rfl, _, rfl⟩ .nil (by simp) (by simp [pileLen]) (fun h' tk t' x => ?_)
  exact h h' tk t' (hsb h' x)
end
end Rx
end Mine
end

section
open PySem PySem.W PySem.Calls PyProof.Rows
namespace Mine
namespace Rx
def crlf : List Nat → List Nat
  | [] => []
  | c :: r => if c = 13 then (match r with
      | 10 :: r' => 13 :: 10 :: crlf r'
      | r => 13 :: 10 :: crlf r) else if c = 10 then 13 :: 10 :: crlf r else c :: crlf r
def dots : Bool → List Nat → List Nat
  | _, [] => []
  | b, c :: r => if b = true ∧ c = 46 then 46 :: 46 :: dots false r else c :: dots (c == 10) r

theorem findOk_none' {ok : Nat → Bool} : ∀ (n s : Nat), findOk ok n s = none → ∀ i, s ≤ i → i < s + n → ok i = false
  | 0, _, _, i, a, b => by omega
  | n + 1, s, h, i, a, b => by
    have h' : (if ok s then some s else findOk ok n (s + 1)) = none := h
    cases ho : ok s with
    | true => rw [ho] at h'; cases h'
    | false =>
      rw [ho] at h'
      by_cases q : i = s
      · rw [q]; exact ho
      · exact findOk_none' n (s + 1) h' i (by omega) (by omega)

theorem drop_cons {text : Array Nat} {d : Nat} (h : d < text.size) : text.toList.drop d = text.getD d 0 :: text.toList.drop (d + 1) := by
  rw [List.drop_eq_getElem_cons (by simpa using h)]
  simp [Array.getD, h]
theorem extract_cons {text : Array Nat} {d a : Nat} (h : d < a) (ha : a ≤ text.size) : (text.extract d a).toList = text.getD d 0 :: (text.extract (d + 1) a).toList := by
  simp only [Array.toList_extract, List.extract_eq_take_drop]
  rw [drop_cons (by omega)]
  have : a - d = (a - (d + 1)) + 1 := by omega
  rw [this, List.take_succ_cons]
theorem extract_nil {text : Array Nat} {d : Nat} : (text.extract d d).toList = [] := by simp
theorem extract_all {text : Array Nat} {d : Nat} : (text.extract d text.size).toList = text.toList.drop d := by
  simp only [Array.toList_extract, List.extract_eq_take_drop]
  rw [List.take_of_length_le (by simp)]

theorem crlf_plain {text : Array Nat} {a : Nat} (ha : a ≤ text.size) : ∀ (k d : Nat), d + k = a → (∀ i, d ≤ i → i < a → ok2 text i = false) →
    crlf (text.toList.drop d) = (text.extract d a).toList ++ crlf (text.toList.drop a)
  | 0, d, h, _ => by
    obtain rfl : d = a := by omega
    rw [extract_nil]; rfl
  | k + 1, d, h, hno => by
    rw [drop_cons (by omega), extract_cons (by omega) ha, List.cons_append, ← crlf_plain ha k (d + 1) (by omega) (fun i x y => hno i (by omega) y)]
    have h0 := hno d (by omega) (by omega)
    unfold ok2 at h0
    rw [decide_eq_true (by omega : d < text.size), Bool.true_and, Bool.or_eq_false_iff] at h0
    have h10 : ¬ text.getD d 0 = 10 := by simpa using h0.1
    have h13 : ¬ text.getD d 0 = 13 := by simpa using h0.2
    conv => lhs; unfold crlf
    rw [if_neg h13, if_neg h10]
theorem crlf_at {text : Array Nat} {a : Nat} (h : ok2 text a = true) : crlf (text.toList.drop a) = 13 :: 10 :: crlf (text.toList.drop (end2 text a)) := by
  unfold ok2 at h
  rw [Bool.and_eq_true, decide_eq_true_eq, Bool.or_eq_true] at h
  obtain ⟨hlt, hc⟩ := h
  rw [drop_cons hlt]
  unfold end2
  by_cases h13 : text.getD a 0 = 13
  · by_cases hn : a + 1 < text.size ∧ text.getD (a + 1) 0 = 10
    · rw [if_pos ⟨h13, hn⟩, drop_cons hn.1, hn.2, h13]
      conv => lhs; unfold crlf
      rfl
    · rw [if_neg (fun z => hn z.2), h13]
      conv => lhs; unfold crlf
      rw [if_pos rfl]
      by_cases hs : a + 1 < text.size
      · rw [drop_cons hs]
        have : ¬ text.getD (a + 1) 0 = 10 := fun z => hn ⟨hs, z⟩
        split
        · rename_i r' e
          injection e with e1 e2
          exact absurd e1 this
        · rfl
      · have : text.toList.drop (a + 1) = [] := by simp; omega
        rw [this]
  · have h10 : text.getD a 0 = 10 := by
      rcases hc with h | h
      · simpa using h
      · exact absurd (by simpa using h) h13
    rw [if_neg (fun z => h13 z.1), h10]
    conv => lhs; unfold crlf
    rfl
theorem end2_bounds {text : Array Nat} {a : Nat} (h : a < text.size) : a < end2 text a ∧ end2 text a ≤ text.size := by
  unfold end2
  by_cases q : text.getD a 0 = 13 ∧ a + 1 < text.size ∧ text.getD (a + 1) 0 = 10
  · rw [if_pos q]; omega
  · rw [if_neg q]; omega
theorem ordered2 (text : Array Nat) : Ordered text (nx2 text) := by
  intro d a b h
  unfold nx2 at h
  cases hq : findOk (ok2 text) (text.size - d + 1) d with
  | none => rw [hq] at h; cases h
  | some q =>
    rw [hq] at h
    cases h
    obtain ⟨h1, h2, h3, _⟩ := findOk_some _ _ hq
    unfold ok2 at h1
    rw [Bool.and_eq_true, decide_eq_true_eq] at h1
    have := end2_bounds h1.1
    exact ⟨h2, this.1, this.2⟩
theorem subGo2 {text : Array Nat} : ∀ (n d : Nat), text.size - d < n → d ≤ text.size → subGo text [13, 10] (nx2 text) n d = crlf (text.toList.drop d)
  | 0, d, h, _ => absurd h (Nat.not_lt_zero _)
  | n + 1, d, h, hd => by
    show (match nx2 text d with | none => _ | some (a, b) => _) = _
    cases hq : findOk (ok2 text) (text.size - d + 1) d with
    | none =>
      have e : nx2 text d = none := by unfold nx2; rw [hq]; rfl
      rw [e]
      have hno := findOk_none' _ _ hq
      rw [crlf_plain (Nat.le_refl _) (text.size - d) d (by omega) (fun i x y => hno i x (by omega))]
      have : text.toList.drop text.size = [] := by simp
      rw [this]
      show _ = _ ++ []
      rw [List.append_nil]
    | some q =>
      have e : nx2 text d = some (q, end2 text q) := by unfold nx2; rw [hq]; rfl
      rw [e]
      obtain ⟨o1, o2, o3⟩ := ordered2 text d _ _ e
      obtain ⟨h1, _, _, hno⟩ := findOk_some _ _ hq
      dsimp only
      rw [crlf_plain (a := q) (by omega) (q - d) d (by omega) hno, crlf_at h1, subGo2 n (end2 text q) (by omega) o3, List.append_assoc]
      rfl

def bol (text : Array Nat) (d : Nat) : Bool := d == 0 || text.getD (d - 1) 0 == 10
theorem bol_succ {text : Array Nat} {d : Nat} : bol text (d + 1) = (text.getD d 0 == 10) := by
  unfold bol; simp
theorem dots_plain {text : Array Nat} {a : Nat} (ha : a ≤ text.size) : ∀ (k d : Nat), d + k = a → (∀ i, d ≤ i → i < a → ok1 text i = false) →
    dots (bol text d) (text.toList.drop d) = (text.extract d a).toList ++ dots (bol text a) (text.toList.drop a)
  | 0, d, h, _ => by
    obtain rfl : d = a := by omega
    rw [extract_nil]; rfl
  | k + 1, d, h, hno => by
    rw [drop_cons (by omega), extract_cons (by omega) ha, List.cons_append, ← dots_plain ha k (d + 1) (by omega) (fun i x y => hno i (by omega) y)]
    have h0 := hno d (by omega) (by omega)
    unfold ok1 at h0
    rw [decide_eq_true (by omega : d < text.size), Bool.true_and] at h0
    have hn : ¬ (bol text d = true ∧ text.getD d 0 = 46) := by
      rintro ⟨x, y⟩
      have x' : (d == 0 || text.getD (d - 1) 0 == 10) = true := x
      rw [x', y] at h0
      cases h0
    conv => lhs; unfold dots
    rw [if_neg hn, bol_succ]
theorem ordered1 (text : Array Nat) : Ordered text (nx1 text) := by
  intro d a b h
  unfold nx1 at h
  cases hq : findOk (ok1 text) (text.size - d + 1) d with
  | none => rw [hq] at h; cases h
  | some q =>
    rw [hq] at h
    cases h
    obtain ⟨h1, h2, h3, _⟩ := findOk_some _ _ hq
    unfold ok1 at h1
    rw [Bool.and_eq_true, Bool.and_eq_true, decide_eq_true_eq] at h1
    exact ⟨h2, by omega, by omega⟩
theorem subGo1 {text : Array Nat} : ∀ (n d : Nat), text.size - d < n → d ≤ text.size → subGo text [46, 46] (nx1 text) n d = dots (bol text d) (text.toList.drop d)
  | 0, d, h, _ => absurd h (Nat.not_lt_zero _)
  | n + 1, d, h, hd => by
    show (match nx1 text d with | none => _ | some (a, b) => _) = _
    cases hq : findOk (ok1 text) (text.size - d + 1) d with
    | none =>
      have e : nx1 text d = none := by unfold nx1; rw [hq]; rfl
      rw [e]
      have hno := findOk_none' _ _ hq
      rw [dots_plain (Nat.le_refl _) (text.size - d) d (by omega) (fun i x y => hno i x (by omega))]
      have : text.toList.drop text.size = [] := by simp
      rw [this]
      show _ = _ ++ []
      rw [List.append_nil]
    | some q =>
      have e : nx1 text d = some (q, q + 1) := by unfold nx1; rw [hq]; rfl
      rw [e]
      obtain ⟨o1, o2, o3⟩ := ordered1 text d _ _ e
      obtain ⟨h1, _, _, hno⟩ := findOk_some _ _ hq
      dsimp only
      rw [dots_plain (a := q) (by omega) (q - d) d (by omega) hno, subGo1 n (q + 1) (by omega) o3, List.append_assoc]
      unfold ok1 at h1
      rw [Bool.and_eq_true, Bool.and_eq_true, decide_eq_true_eq] at h1
      have hc : text.getD q 0 = 46 := by simpa using h1.2.2
      have hb : bol text q = true := h1.1
      rw [hb, drop_cons o3, hc]
      conv => rhs; unfold dots
      rw [if_pos ⟨rfl, rfl⟩, bol_succ, hc]
      rfl
/-- quotedata of a text -/
def quoted (l : List Nat) : List Nat := dots true (crlf l)
theorem sub1_text (a : Array Nat) : subGo a [46, 46] (nx1 a) (a.size + 1) 0 = dots true a.toList := by
  have := subGo1 (text := a) (a.size + 1) 0 (by omega) (by omega)
  simpa [bol] using this
theorem sub2_text (a : Array Nat) : subGo a [13, 10] (nx2 a) (a.size + 1) 0 = crlf a.toList := by
  have := subGo2 (text := a) (a.size + 1) 0 (by omega) (by omega)
  simpa using this
theorem crlf_length : ∀ (n : Nat) (l : List Nat), l.length ≤ n → (crlf l).length ≤ 2 * l.length
  | _, [], _ => by simp [crlf]
  | n + 1, c :: r, h => by
    rw [List.length_cons] at h
    unfold crlf
    by_cases h13 : c = 13
    · rw [if_pos h13]
      split
      · rename_i r'
        have := crlf_length n r' (by rw [List.length_cons] at h; omega)
        simp only [List.length_cons]; omega
      · have := crlf_length n r (by omega)
        simp only [List.length_cons]; omega
    · rw [if_neg h13]
      have := crlf_length n r (by omega)
      split <;> (simp only [List.length_cons]; omega)
end Rx
end Mine
end

section
example : True := by w_top off; trivial
local macro_rules | `(tactic| walk_at "none0") => `(tactic| fail)
open PySem PySem.W PySem.Calls PyProof.Rows
namespace Mine
example : (topk.heap_39, PySem.Challenge.rw_kq0049_01) = (topk.heap_39, PySem.Challenge.rw_kq0049_01) := by k_fill; rfl
set_option pp.deepTerms false
set_option pp.deepTerms.threshold 4
set_option maxRecDepth 100000
section
variable {w : World} {A : Around} {s : Shared} {mean : ExcName → Option Value} {mg mb : Str → Option Value} {R : Result → Shared → Prop}
theorem isPat1 {h : Heap} (X : (topk.heap_39 w.params).In h) : Rx.IsPat h 43 Rx.code1 := by
  refine ⟨_, _, _, _, _, _, X 43 _ (by k_is), rfl, rfl, rfl, rfl, X 42 _ (by k_is), rfl, ?_, rfl, rfl⟩
  decide +kernel
theorem isPat2 {h : Heap} (X : (topk.heap_39 w.params).In h) : Rx.IsPat h 48 Rx.code2 := by
  refine ⟨_, _, _, _, _, _, X 48 _ (by k_is), rfl, rfl, rfl, rfl, X 47 _ (by k_is), rfl, ?_, rfl, rfl⟩
  decide +kernel
theorem crlfStr : (Str.ofString "\r\n").cps = #[13, 10] := by decide +kernel
theorem dotsStr : (Str.ofString "..").cps = #[46, 46] := by decide +kernel
local macro_rules | `(tactic| walk_at "getMethod ref") => `(tactic| k_extra "u1")
local macro_rules | `(tactic| walk_at "getMethod ref") => `(tactic| k_extra "u2")
example : True := by
  k_with "u1" => ((with_reducible show wpAny _ _ (getMethod (Value.ref 43) _ _) _ _ _); with_unfolding_all refine Rx.getSub (isPat1 (Frag.In.keeps (by assumption) (Fr.keep (by assumption)))) ?_)
  k_with "u2" => ((with_reducible show wpAny _ _ (getMethod (Value.ref 48) _ _) _ _ _); with_unfolding_all refine Rx.getSub (isPat2 (Frag.In.keeps (by assumption) (Fr.keep (by assumption)))) ?_)
  trivial
set_option maxHeartbeats 8000000 in
theorem quotedata_spec {x : Str} {t : Tok} (hd : A.depth < 450) (X : (topk.heap_39 w.params).In s.heap) (T : Top VW LO mean mg mb s.heap) (hx : x.cps.size ≤ 10000)
   (h : ∀ h' tk' t', Keep s.heap h' → R (.ok (.ret (.str ⟨(Rx.quoted x.cps.toList).toArray⟩ t'))) {s with heap := h', toks := tk'}) :
   codeAny (model PP w) A (.call (.ref 55) ⟨[.str x t], []⟩) R s := by
  walk_at "menter"
  intro h₁ F N
  walk_at "mwalk"
  refine Rx.call_sub (p := 48) (code := Rx.code2) (nx := Rx.nx2 x.cps) (by omega) (by decide) (by decide +kernel) (Rx.finds2 _) (Rx.ordered2 _) (isPat2 (X.keeps F.keep)) (fun h2 tk2 t2 k2 => ?_)
  have F2 := frExt F k2
  have N2 := newsExt N k2
  clear F N
  rw [crlfStr, Rx.sub2_text]
  walk_at "mwalk"
  have hl := Rx.crlf_length _ x.cps.toList (Nat.le_refl _)
  rw [Array.length_toList (xs := x.cps)] at hl
  refine Rx.call_sub (p := 43) (code := Rx.code1) (nx := Rx.nx1 (Rx.crlf x.cps.toList).toArray) (by show (Rx.crlf x.cps.toList).toArray.size ≤ _; rw [List.size_toArray]; omega) (by decide) (by decide +kernel) (Rx.finds1 _) (Rx.ordered1 _) (isPat1 (X.keeps F2.keep)) (fun h3 tk3 t3 k3 => ?_)
  have F3 := frExt F2 k3
  have N3 := newsExt N2 k3
  clear F2 N2
  rw [dotsStr]
  walk_at "mwalk"
  have hf := h h3 tk3 t3 F3.keep
  unfold Rx.quoted at hf
  rw [← Rx.sub1_text (Rx.crlf x.cps.toList).toArray] at hf
  exact hf
end
end Mine
end

section
open PySem PySem.W PySem.Calls PyProof.Rows
namespace Mine
theorem bitOr_pp {x y : Int} (hx : 0 ≤ x) (hy : 0 ≤ y) : Builtin.bitOr x y = ((x.toNat ||| y.toNat : Nat) : Int) := by
  unfold Builtin.bitOr
  have h1 : ¬ 0 ≤ Builtin.bitNot x := by unfold Builtin.bitNot; omega
  have h2 : ¬ 0 ≤ Builtin.bitNot y := by unfold Builtin.bitNot; omega
  rw [bitAnd_nn h1 h2]
  unfold Builtin.bitNot
  have e1 : -(-x - 1) - 1 = x := by omega
  have e2 : -(-y - 1) - 1 = y := by omega
  rw [e1, e2]; omega
theorem or_shift {x c : Int} (k : Nat) (hx : 0 ≤ x) (hc : 0 ≤ c) (h : c < 2 ^ k) : Builtin.bitOr (x * 2 ^ k) c = x * 2 ^ k + c := by
  have hp : (0 : Int) < 2 ^ k := Int.pow_pos (by decide)
  rw [bitOr_pp (Int.mul_nonneg hx (Int.le_of_lt hp)) hc]
  obtain ⟨a, rfl⟩ := Int.eq_ofNat_of_zero_le hx
  obtain ⟨b, rfl⟩ := Int.eq_ofNat_of_zero_le hc
  have hb : b < 2 ^ k := by exact_mod_cast h
  have e : ((a : Int) * 2 ^ k).toNat = a <<< k := by
    rw [Nat.shiftLeft_eq]
    have : ((a : Int) * 2 ^ k) = ((a * 2 ^ k : Nat) : Int) := by push_cast; rfl
    rw [this]; rfl
  rw [e, Int.toNat_natCast, ← Nat.shiftLeft_add_eq_or_of_lt hb, Nat.shiftLeft_eq]
  push_cast; rfl
end Mine
end

section
open PySem PySem.W PySem.Calls PyProof.Rows
namespace Mine
def alphaB : Array UInt8 := #[65, 66, 67, 68, 69, 70, 71, 72, 73, 74, 75, 76, 77, 78, 79, 80, 81, 82, 83, 84, 85, 86, 87, 88, 89, 90, 97, 98, 99, 100, 101, 102, 103, 104, 105, 106, 107, 108, 109, 110, 111, 112, 113, 114, 115, 116, 117, 118, 119, 120, 121, 122, 48, 49, 50, 51, 52, 53, 54, 55, 56, 57, 43, 47]
/-- the sign of a number below 64 -/
def B (i : Int) : Int := (KBw.bInts alphaB).getD i.toNat 0
abbrev EncSt := List Int × Int × Int
def encStep (st : EncSt) (c : Int) : EncSt :=
  let lc := (st.2.2 * 256 + c) % 65536
  if st.2.1 = 0 then (st.1 ++ [B (lc / 4 % 64)], 2, lc) else if st.2.1 = 2 then (st.1 ++ [B (lc / 16 % 64)], 4, lc) else (st.1 ++ [B (lc / 64 % 64), B (lc % 64)], 0, lc)
def encAll (l : List Int) : EncSt := l.foldl encStep ([], 0, 0)
def encFin (st : EncSt) : List Int :=
  if st.2.1 = 2 then st.1 ++ [B (st.2.2 % 4 * 16), 61, 61] else if st.2.1 = 4 then st.1 ++ [B (st.2.2 % 16 * 4), 61] else st.1
def enc (l : List Int) : List Int := encFin (encAll l)
theorem encAll_snoc (l : List Int) (c : Int) : encAll (l ++ [c]) = encStep (encAll l) c := by simp [encAll]
theorem B_range (i : Int) : 0 ≤ B i ∧ B i < 256 := KBw.getD_in fun _ hk => KBw.ints_in hk
theorem allB {out : List Int} (h : ∀ n ∈ out, 0 ≤ n ∧ n < 256) {i : Int} : ∀ n ∈ out ++ [B i], 0 ≤ n ∧ n < 256 := by
  intro n hn
  rcases List.mem_append.mp hn with hn | hn
  · exact h n hn
  · rw [List.mem_singleton.mp hn]; exact B_range i
theorem lc_eq {lc c : Int} (h0 : 0 ≤ lc) (hc : 0 ≤ c) (h : c < 256) : Builtin.bitAnd (Builtin.bitOr (lc * 2 ^ Int.toNat 8) c) 65535 = (lc * 256 + c) % 65536 := by
  have e : Builtin.bitOr (lc * 2 ^ Int.toNat 8) c = lc * 2 ^ 8 + c := or_shift 8 h0 hc (by simpa using h)
  rw [bitAnd_m16, e]; rfl
theorem fdiv_pos {x k : Int} (hk : 0 ≤ k) : x.fdiv k = x / k := Int.fdiv_eq_ediv_of_nonneg _ hk
theorem ix {lc c k : Int} {q : Nat} (hk : (2 ^ q : Int) = k) (h0 : 0 ≤ lc) (hc : 0 ≤ c) (h : c < 256) : (KBw.bInts alphaB).getD (Builtin.bitAnd ((Builtin.bitAnd (Builtin.bitOr (lc * 2 ^ Int.toNat 8) c) 65535).fdiv (2 ^ q)) 63).toNat 0 = B ((lc * 256 + c) % 65536 / k % 64) := by
  rw [lc_eq h0 hc h, bitAnd_m6, hk, fdiv_pos (by rw [← hk]; exact Int.le_of_lt (Int.pow_pos (by decide)))]; rfl
theorem ix0 {lc c : Int} (h0 : 0 ≤ lc) (hc : 0 ≤ c) (h : c < 256) : (KBw.bInts alphaB).getD (Builtin.bitAnd ((Builtin.bitAnd (Builtin.bitOr (lc * 2 ^ Int.toNat 8) c) 65535).fdiv (2 ^ 0)) 63).toNat 0 = B ((lc * 256 + c) % 65536 % 64) := by
  have := ix (q := 0) (k := 1) (by decide) h0 hc h
  rw [this, Int.ediv_one]
theorem ix3 {lc : Int} : (KBw.bInts alphaB).getD (Builtin.bitAnd lc 3 * 2 ^ Int.toNat 4).toNat 0 = B (lc % 4 * 16) := by rw [bitAnd_m2]; rfl
theorem ix15 {lc : Int} : (KBw.bInts alphaB).getD (Builtin.bitAnd lc 15 * 2 ^ Int.toNat 2).toNat 0 = B (lc % 16 * 4) := by rw [bitAnd_m4]; rfl
theorem ix3_lt (x : Int) : 0 ≤ Builtin.bitAnd x 3 * 2 ^ Int.toNat 4 ∧ Builtin.bitAnd x 3 * 2 ^ Int.toNat 4 < 64 := by
  have := bitAnd_range x (y := 3) (by decide)
  have e : (2 : Int) ^ Int.toNat 4 = 16 := rfl
  rw [e]; omega
theorem ix15_lt (x : Int) : 0 ≤ Builtin.bitAnd x 15 * 2 ^ Int.toNat 2 ∧ Builtin.bitAnd x 15 * 2 ^ Int.toNat 2 < 64 := by
  have := bitAnd_range x (y := 15) (by decide)
  have e : (2 : Int) ^ Int.toNat 2 = 4 := rfl
  rw [e]; omega
theorem all61 {out : List Int} (h : ∀ n ∈ out, 0 ≤ n ∧ n < 256) : ∀ n ∈ out ++ [61], 0 ≤ n ∧ n < 256 := by
  intro n hn
  rcases List.mem_append.mp hn with hn | hn
  · exact h n hn
  · rw [List.mem_singleton.mp hn]; decide
/-- the value of a sign of the alphabet -/
def b64v (c : Int) : Int := if 65 ≤ c ∧ c ≤ 90 then c - 65 else if 97 ≤ c ∧ c ≤ 122 then c - 71 else if 48 ≤ c ∧ c ≤ 57 then c + 4 else if c = 43 then 62 else if c = 47 then 63 else 64
theorem b64v_range (c : Int) : 0 ≤ b64v c ∧ b64v c ≤ 64 := by
  unfold b64v
  (repeat' split) <;> omega
theorem b64v_B : ∀ i : Nat, i < 64 → b64v (B i) = i ∧ B i ≠ 61 := by decide
/-- out, the place in the quad, the bits left, the pads -/
abbrev DecSt := List Int × Int × Int × Int
def decV (st : DecSt) (v : Int) : DecSt :=
  if st.2.1 = 0 then (st.1, 1, v, 0) else if st.2.1 = 1 then (st.1 ++ [st.2.2.1 * 4 + v / 16], 2, v % 16, 0) else if st.2.1 = 2 then (st.1 ++ [st.2.2.1 * 16 + v / 4], 3, v % 4, 0) else (st.1 ++ [st.2.2.1 * 64 + v], 0, 0, 0)
def decStep (st : DecSt) (c : Int) : DecSt :=
  if c = 61 then (st.1, st.2.1, st.2.2.1, st.2.2.2 + 1) else if b64v c ≥ 64 then st else decV st (b64v c)
def decAll (l : List Int) : DecSt := l.foldl decStep ([], 0, 0, 0)
theorem decAll_snoc (l : List Int) (c : Int) : decAll (l ++ [c]) = decStep (decAll l) c := by simp [decAll]
theorem decAll_B {l : List Int} {i : Int} (h0 : 0 ≤ i) (h : i < 64) : decAll (l ++ [B i]) = decV (decAll l) i := by
  obtain ⟨k, rfl⟩ := Int.eq_ofNat_of_zero_le h0
  have := b64v_B k (by omega)
  rw [decAll_snoc]
  unfold decStep
  rw [if_neg this.2, this.1, if_neg (by omega)]
theorem decAll_pad {l : List Int} {o : List Int} {q d p : Int} (h : decAll l = (o, q, d, p)) : decAll (l ++ [61]) = (o, q, d, p + 1) := by
  rw [decAll_snoc, h]; rfl
/-- coder and decoder go together -/
def Rel (l : List Int) (e : EncSt) (d : DecSt) : Prop :=
  (e.2.1 = 0 ∧ d = (l, 0, 0, 0)) ∨
  (e.2.1 = 2 ∧ ∃ l₀ b, 0 ≤ b ∧ b < 256 ∧ l = l₀ ++ [b] ∧ e.2.2 % 256 = b ∧ d = (l₀, 1, b / 4, 0)) ∨
  (e.2.1 = 4 ∧ ∃ l₀ b, 0 ≤ b ∧ b < 256 ∧ l = l₀ ++ [b] ∧ e.2.2 % 256 = b ∧ d = (l₀, 2, b / 16, 0))
theorem rel_step {l : List Int} {e : EncSt} {c : Int} (hc0 : 0 ≤ c) (hc1 : c < 256) (he : 0 ≤ e.2.2) (h : Rel l e (decAll e.1)) : Rel (l ++ [c]) (encStep e c) (decAll (encStep e c).1) ∧ 0 ≤ (encStep e c).2.2 := by
  obtain ⟨out, lb, lc⟩ := e
  dsimp only at he h
  have hm : 0 ≤ (lc * 256 + c) % 65536 := by omega
  rcases h with ⟨rfl, hd⟩ | ⟨rfl, l₀, b, b0, b1, rfl, hb, hd⟩ | ⟨rfl, l₀, b, b0, b1, rfl, hb, hd⟩
  · refine ⟨.inr (.inl ⟨rfl, l, c, hc0, hc1, rfl, ?_, ?_⟩), hm⟩
    · show (lc * 256 + c) % 65536 % 256 = c
      omega
    · show decAll (out ++ [B ((lc * 256 + c) % 65536 / 4 % 64)]) = _
      rw [decAll_B (by omega) (by omega), hd]
      show (l, (1 : Int), (lc * 256 + c) % 65536 / 4 % 64, (0 : Int)) = _
      have : (lc * 256 + c) % 65536 / 4 % 64 = c / 4 := by omega
      rw [this]
  · refine ⟨.inr (.inr ⟨rfl, l₀ ++ [b], c, hc0, hc1, rfl, ?_, ?_⟩), hm⟩
    · show (lc * 256 + c) % 65536 % 256 = c
      omega
    · show decAll (out ++ [B ((lc * 256 + c) % 65536 / 16 % 64)]) = _
      rw [decAll_B (by omega) (by omega), hd]
      show (l₀ ++ [b / 4 * 4 + (lc * 256 + c) % 65536 / 16 % 64 / 16], (2 : Int), (lc * 256 + c) % 65536 / 16 % 64 % 16, (0 : Int)) = _
      have hb' : lc % 256 = b := hb
      have e1 : b / 4 * 4 + (lc * 256 + c) % 65536 / 16 % 64 / 16 = b := by omega
      have e2 : (lc * 256 + c) % 65536 / 16 % 64 % 16 = c / 16 := by omega
      rw [e1, e2]
  · refine ⟨.inl ⟨rfl, ?_⟩, hm⟩
    show decAll (out ++ [B ((lc * 256 + c) % 65536 / 64 % 64), B ((lc * 256 + c) % 65536 % 64)]) = _
    have hs : out ++ [B ((lc * 256 + c) % 65536 / 64 % 64), B ((lc * 256 + c) % 65536 % 64)] = (out ++ [B ((lc * 256 + c) % 65536 / 64 % 64)]) ++ [B ((lc * 256 + c) % 65536 % 64)] := by simp
    rw [hs, decAll_B (by omega) (by omega), decAll_B (by omega) (by omega), hd]
    show ((l₀ ++ [b / 16 * 16 + (lc * 256 + c) % 65536 / 64 % 64 / 4]) ++ [(lc * 256 + c) % 65536 / 64 % 64 % 4 * 64 + (lc * 256 + c) % 65536 % 64], (0 : Int), (0 : Int), (0 : Int)) = _
    have hb' : lc % 256 = b := hb
    have e1 : b / 16 * 16 + (lc * 256 + c) % 65536 / 64 % 64 / 4 = b := by omega
    have e2 : (lc * 256 + c) % 65536 / 64 % 64 % 4 * 64 + (lc * 256 + c) % 65536 % 64 = c := by omega
    rw [e1, e2]
theorem rel_all : ∀ (r l : List Int) (e : EncSt), (∀ c ∈ r, 0 ≤ c ∧ c < 256) → 0 ≤ e.2.2 → Rel l e (decAll e.1) → Rel (l ++ r) (r.foldl encStep e) (decAll (r.foldl encStep e).1)
  | [], l, e, _, _, h => by rw [List.append_nil]; exact h
  | c :: r, l, e, hr, he, h => by
    have hc := hr c (.head _)
    obtain ⟨h1, h2⟩ := rel_step hc.1 hc.2 he h
    have := rel_all r (l ++ [c]) (encStep e c) (fun x hx => hr x (.tail _ hx)) h2 h1
    rw [List.append_assoc] at this
    exact this
/-- what enc writes, the decoder reads back -/
theorem dec_enc {l : List Int} (h : ∀ c ∈ l, 0 ≤ c ∧ c < 256) : ∃ q d p, decAll (enc l) = (l, q, d, p) ∧ (q = 0 ∨ (q = 2 ∧ p = 2) ∨ (q = 3 ∧ p = 1)) := by
  have hr := rel_all l [] ([], 0, 0) h (Int.le_refl _) (.inl ⟨rfl, rfl⟩)
  rw [List.nil_append] at hr
  unfold enc encFin
  show ∃ q d p, decAll (if (encAll l).2.1 = 2 then (encAll l).1 ++ [B ((encAll l).2.2 % 4 * 16), 61, 61] else if (encAll l).2.1 = 4 then (encAll l).1 ++ [B ((encAll l).2.2 % 16 * 4), 61] else (encAll l).1) = _ ∧ _
  change Rel l (encAll l) (decAll (encAll l).1) at hr
  generalize encAll l = e at hr
  obtain ⟨out, lb, lc⟩ := e
  rcases hr with ⟨h1, hd⟩ | ⟨h1, l₀, b, b0, b1, rfl, hb, hd⟩ | ⟨h1, l₀, b, b0, b1, rfl, hb, hd⟩
  · have h1' : lb = 0 := h1
    subst h1'
    exact ⟨0, 0, 0, hd, .inl rfl⟩
  · have h1' : lb = 2 := h1
    subst h1'
    have hb' : lc % 256 = b := hb
    refine ⟨2, 0, 2, ?_, .inr (.inl ⟨rfl, rfl⟩)⟩
    show decAll (out ++ [B (lc % 4 * 16), 61, 61]) = _
    have hs : out ++ [B (lc % 4 * 16), 61, 61] = ((out ++ [B (lc % 4 * 16)]) ++ [61]) ++ [61] := by simp
    have h0 : decAll (out ++ [B (lc % 4 * 16)]) = (l₀ ++ [b], 2, 0, 0) := by
      rw [decAll_B (by omega) (by omega)]
      have hd' : decAll out = (l₀, 1, b / 4, 0) := hd
      rw [hd']
      show (l₀ ++ [b / 4 * 4 + lc % 4 * 16 / 16], (2 : Int), lc % 4 * 16 % 16, (0 : Int)) = _
      have e1 : b / 4 * 4 + lc % 4 * 16 / 16 = b := by omega
      have e2 : lc % 4 * 16 % 16 = 0 := by omega
      rw [e1, e2]
    rw [hs, decAll_pad (decAll_pad h0)]; rfl
  · have h1' : lb = 4 := h1
    subst h1'
    have hb' : lc % 256 = b := hb
    refine ⟨3, 0, 1, ?_, .inr (.inr ⟨rfl, rfl⟩)⟩
    show decAll (out ++ [B (lc % 16 * 4), 61]) = _
    have hs : out ++ [B (lc % 16 * 4), 61] = (out ++ [B (lc % 16 * 4)]) ++ [61] := by simp
    have h0 : decAll (out ++ [B (lc % 16 * 4)]) = (l₀ ++ [b], 3, 0, 0) := by
      rw [decAll_B (by omega) (by omega)]
      have hd' : decAll out = (l₀, 2, b / 16, 0) := hd
      rw [hd']
      show (l₀ ++ [b / 16 * 16 + lc % 16 * 4 / 4], (3 : Int), lc % 16 * 4 % 4, (0 : Int)) = _
      have e1 : b / 16 * 16 + lc % 16 * 4 / 4 = b := by omega
      have e2 : lc % 16 * 4 % 4 = 0 := by omega
      rw [e1, e2]
    rw [hs, decAll_pad h0]; rfl
theorem or1 {lc v : Int} (h0 : 0 ≤ lc) (v0 : 0 ≤ v) (v1 : v < 64) : Builtin.bitOr (lc * 2 ^ Int.toNat 2) (v.fdiv (2 ^ Int.toNat 4)) = lc * 4 + v / 16 := by
  have e : v.fdiv (2 ^ Int.toNat 4) = v / 16 := fdiv_pos (by decide)
  rw [e]
  exact or_shift 2 h0 (by omega) (by show v / 16 < 4; omega)
theorem or2 {lc v : Int} (h0 : 0 ≤ lc) (v0 : 0 ≤ v) (v1 : v < 64) : Builtin.bitOr (lc * 2 ^ Int.toNat 4) (v.fdiv (2 ^ Int.toNat 2)) = lc * 16 + v / 4 := by
  have e : v.fdiv (2 ^ Int.toNat 2) = v / 4 := fdiv_pos (by decide)
  rw [e]
  exact or_shift 4 h0 (by omega) (by show v / 4 < 16; omega)
theorem or3 {lc v : Int} (h0 : 0 ≤ lc) (v0 : 0 ≤ v) (v1 : v < 64) : Builtin.bitOr (lc * 2 ^ Int.toNat 6) v = lc * 64 + v := or_shift 6 h0 v0 v1
theorem dec_pad1 {l : List Int} {c : Int} {o : List Int} {q d p : Int} (h : decAll l = (o, q, d, p)) (hc : c = 61) : decAll (l ++ [c]) = (o, q, d, p + 1) := by rw [hc]; exact decAll_pad h
theorem dec_skip {l : List Int} {c : Int} {st : DecSt} (h : decAll l = st) (hc : c ≠ 61) (hge : 64 ≤ b64v c) : decAll (l ++ [c]) = st := by
  rw [decAll_snoc, h]; unfold decStep; rw [if_neg hc, if_pos (by omega)]
theorem dec_val {l : List Int} {c : Int} {st : DecSt} (h : decAll l = st) (hc : c ≠ 61) (hlt : b64v c < 64) : decAll (l ++ [c]) = decV st (b64v c) := by
  rw [decAll_snoc, h]; unfold decStep; rw [if_neg hc, if_neg (by omega)]
theorem allOne {out : List Int} (h : ∀ n ∈ out, 0 ≤ n ∧ n < 256) {x : Int} (h0 : 0 ≤ x) (h1 : x < 256) : ∀ n ∈ out ++ [x], 0 ≤ n ∧ n < 256 := by
  intro n hn
  rcases List.mem_append.mp hn with hn | hn
  · exact h n hn
  · rw [List.mem_singleton.mp hn]; exact ⟨h0, h1⟩
end Mine
end

section
open PySem PySem.W PySem.Calls PyProof.Rows
namespace Mine
theorem B_char : ∀ i : Nat, i < 64 → 43 ≤ B i ∧ B i ≤ 122 := by decide
theorem B_char' {i : Int} (h0 : 0 ≤ i) (h1 : i < 64) : 43 ≤ B i ∧ B i ≤ 122 := by
  obtain ⟨k, rfl⟩ := Int.eq_ofNat_of_zero_le h0
  exact B_char k (by omega)
theorem enc_step_chars {st : EncSt} {c : Int} (h : ∀ n ∈ st.1, 43 ≤ n ∧ n ≤ 122) : ∀ n ∈ (encStep st c).1, 43 ≤ n ∧ n ≤ 122 := by
  obtain ⟨out, lb, lc⟩ := st
  intro n hn
  unfold encStep at hn
  dsimp only at hn h
  split at hn
  · rcases List.mem_append.mp hn with hn | hn
    · exact h n hn
    · rw [List.mem_singleton.mp hn]; exact B_char' (by omega) (by omega)
  · split at hn
    · rcases List.mem_append.mp hn with hn | hn
      · exact h n hn
      · rw [List.mem_singleton.mp hn]; exact B_char' (by omega) (by omega)
    · rcases List.mem_append.mp hn with hn | hn
      · exact h n hn
      · rcases List.mem_cons.mp hn with hn | hn
        · rw [hn]; exact B_char' (by omega) (by omega)
        · rw [List.mem_singleton.mp hn]; exact B_char' (by omega) (by omega)
theorem enc_fold_chars : ∀ (l : List Int) (st : EncSt), (∀ n ∈ st.1, 43 ≤ n ∧ n ≤ 122) → ∀ n ∈ (l.foldl encStep st).1, 43 ≤ n ∧ n ≤ 122
  | [], _, h => h
  | c :: r, st, h => enc_fold_chars r _ (enc_step_chars h)
theorem enc_chars (l : List Int) : ∀ n ∈ enc l, 43 ≤ n ∧ n ≤ 122 := by
  have h := enc_fold_chars l ([], 0, 0) (fun n hn => nomatch hn)
  change ∀ n ∈ (encAll l).1, _ at h
  unfold enc encFin
  generalize encAll l = st at h
  obtain ⟨out, lb, lc⟩ := st
  dsimp only at h ⊢
  intro n hn
  split at hn
  · rcases List.mem_append.mp hn with hn | hn
    · exact h n hn
    · rcases List.mem_cons.mp hn with hn | hn
      · rw [hn]; exact B_char' (by omega) (by omega)
      · simp at hn; omega
  · split at hn
    · rcases List.mem_append.mp hn with hn | hn
      · exact h n hn
      · rcases List.mem_cons.mp hn with hn | hn
        · rw [hn]; exact B_char' (by omega) (by omega)
        · simp at hn; omega
    · exact h n hn
theorem enc_fold_len : ∀ (l : List Int) (st : EncSt), (l.foldl encStep st).1.length ≤ st.1.length + 2 * l.length
  | [], _ => by simp
  | c :: r, st => by
    have h := enc_fold_len r (encStep st c)
    have h2 : (encStep st c).1.length ≤ st.1.length + 2 := by
      unfold encStep
      dsimp only
      (repeat' split) <;> simp
    rw [List.foldl_cons, List.length_cons]; omega
theorem enc_len (l : List Int) : (enc l).length ≤ 2 * l.length + 3 := by
  have h : (encAll l).1.length ≤ 2 * l.length := by simpa [encAll] using enc_fold_len l ([], 0, 0)
  unfold enc encFin
  (repeat' split) <;> ((try simp only [List.length_append, List.length_cons, List.length_nil]); omega)
/-- the signs of a row: the name, a colon, the octets written -/
def encT (o : List Int) : List Nat := (enc o).map Int.toNat
def rowT (x : List Nat) (o : List Int) : List Nat := x ++ 58 :: encT o
theorem byteArr_map (l : List Int) (h : ∀ n ∈ l, 0 ≤ n ∧ n < 256) : ((byteArr l).map (·.toNat)).toList = l.map Int.toNat := by
  unfold byteArr
  rw [Array.toList_map, List.map_map]
  refine List.map_congr_left fun n hn => ?_
  have := h n hn
  show n.toNat.toUInt8.toNat = n.toNat
  show (UInt8.ofNat n.toNat).toNat = _
  rw [UInt8.toNat_ofNat']
  omega
theorem encT_bytes (o : List Int) : ((byteArr (enc o)).map (·.toNat)).toList = encT o := byteArr_map _ fun n hn => by have := enc_chars o n hn; omega
theorem enc_ascii (o : List Int) : ∀ c ∈ (byteArr (enc o)).toList, c.toNat < 128 := by
  intro c hc
  have h : c.toNat ∈ ((byteArr (enc o)).map (·.toNat)).toList := by rw [Array.toList_map]; exact List.mem_map_of_mem hc
  rw [encT_bytes] at h
  obtain ⟨n, hn, e⟩ := List.mem_map.mp h
  have := enc_chars o n hn
  omega
end Mine
end

section
open PySem PySem.W PySem.Calls PyProof.Rows
namespace Mine
/-- a turn's end, any ledger -/
def TurnEnd (h₀ : Heap) (L : Addr) (wr : List Addr) (own : List (Addr × Obj)) (J : (Str → Option Value) → List (Addr × Obj) → Prop) (s₁ : Shared) (Q : Flow → Shared → Prop) (f : Flow) (s₂ : Shared) : Prop :=
  match f with
  | .ret v => Q (.ret v) s₂
  | .brk => Q .next s₂
  | _ => ∃ h' tk m' news', s₂ = { s₁ with heap := h', toks := tk } ∧ Fr h₀ L h' m' ∧ News h₀ L h' (own ++ news') ∧ (∀ p ∈ news', p.1 ∉ wr) ∧ J m' news'
theorem TurnEnd.mk {h₀ : Heap} {L : Addr} {wr : List Addr} {own news' : List (Addr × Obj)} {J : (Str → Option Value) → List (Addr × Obj) → Prop} {s₁ : Shared} {Q : Flow → Shared → Prop} {h' : Heap} {tk : Nat} {m' : Str → Option Value}
    (F : Fr h₀ L h' m') (N : News h₀ L h' (own ++ news')) (hw : ∀ p ∈ news', p.1 ∉ wr) (hj : J m' news') : TurnEnd h₀ L wr own J s₁ Q .next { s₁ with heap := h', toks := tk } := ⟨h', tk, m', news', rfl, F, N, hw, hj⟩
theorem TurnEnd.mkc {h₀ : Heap} {L : Addr} {wr : List Addr} {own news' : List (Addr × Obj)} {J : (Str → Option Value) → List (Addr × Obj) → Prop} {s₁ : Shared} {Q : Flow → Shared → Prop} {h' : Heap} {tk : Nat} {m' : Str → Option Value}
    (F : Fr h₀ L h' m') (N : News h₀ L h' (own ++ news')) (hw : ∀ p ∈ news', p.1 ∉ wr) (hj : J m' news') : TurnEnd h₀ L wr own J s₁ Q .cont { s₁ with heap := h', toks := tk } := ⟨h', tk, m', news', rfl, F, N, hw, hj⟩

section
variable {prog : Program} {w : World} {A : Around} {E : Value → Shared → Prop} {s : Shared} {env : Env} {h₀ : Heap} {x : Str} {body : List Stmt} {Q : Flow → Shared → Prop}
theorem loopG {I : Addr} {fp wr : List Addr} {n : Nat} {P : Nat → Value → Prop} {St : Nat → Heap → Prop} {m₀ : Str → Option Value} {news : List (Addr × Obj)} (J : Nat → (Str → Option Value) → List (Addr × Obj) → Prop)
    (W : Walks prog w A I fp wr n P St) (hLf : env.locals ∉ fp) (hwr : ∀ b ∈ wr, h₀.get? b = none) (hnw : ∀ p ∈ news, p.1 ∉ wr) (hst : St 0 s.heap) (F : Fr h₀ env.locals s.heap m₀) (N : News h₀ env.locals s.heap news) (hj : J 0 m₀ news)
    (turn : ∀ i v m₁ news₁ h tk own, i < n → P i v → J i m₁ news₁ → (∀ p ∈ news₁, p.1 ∉ wr) → (∀ p ∈ own, p.1 ∈ fp) → St (i + 1) h → Fr h₀ env.locals h (fun y => if y = x then some v else m₁ y) → News h₀ env.locals h (own ++ news₁) →
      wpAny (model prog w) A (execs body env) (TurnEnd h₀ env.locals wr own (J (i + 1)) { s with heap := h, toks := tk } Q) E { s with heap := h, toks := tk })
    (done : ∀ m₁ news₁ h tk, J n m₁ news₁ → Fr h₀ env.locals h m₁ → News h₀ env.locals h news₁ → Q .next { s with heap := h, toks := tk }) :
    LoopAtV prog w A h₀ env x body Q E (.ref I) s := by
  refine ⟨I, fp, wr, n, P, St, m₀, news, J, rfl, W, hLf, hwr, hnw, hst, F, N, hj, ?_, ?_⟩
  · rintro i v m₁ news₁ s₁ own ⟨h, tk, rfl⟩ hi hP hJ hoff hown _ _ hst₁ F₁ N₁
    refine wpAny_mono (turn i v m₁ news₁ h tk own hi hP hJ hoff hown hst₁ F₁ N₁) (fun f s₂ p => ?_) fun _ _ e => e
    have fin : (∃ h' tk' m' news', s₂ = { s with heap := h', toks := tk' } ∧ Fr h₀ env.locals h' m' ∧ News h₀ env.locals h' (own ++ news') ∧ (∀ p ∈ news', p.1 ∉ wr) ∧ J (i + 1) m' news') →
        LoopStepU h₀ env.locals wr own (J (i + 1)) { s with heap := h, toks := tk } .next s₂ := by
      rintro ⟨h', tk', m', news', e, F', N', hw, hm⟩
      exact ⟨rfl, h', tk', m', news', e, F', N', hw, hm⟩
    cases f with
    | ret v => exact .ret p
    | brk => exact .brk p
    | next => exact .next (fin p)
    | cont => exact .cont (fin p)
  · rintro h' tk m' news' F' N' _ hJ
    exact done m' news' h' tk hJ F' N'

/-- for c in (bytes) -/
theorem loopBytes {b : Array UInt8} {tb : Tok} {m₀ : Str → Option Value} {news : List (Addr × Obj)} (J : Nat → (Str → Option Value) → List (Addr × Obj) → Prop)
    (hh : A.handled = none) (F : Fr h₀ env.locals s.heap m₀) (N : News h₀ env.locals s.heap news) (hj : J 0 m₀ news)
    (turn : ∀ i c t m₁ news₁ h tk own I, b[i]? = some c → J i m₁ news₁ → (∀ p ∈ news₁, p.1 ≠ I) → (∀ p ∈ own, p.1 = I) → Fr h₀ env.locals h (fun y => if y = x then some (.int (c.toNat : Nat) t) else m₁ y) → News h₀ env.locals h (own ++ news₁) →
      wpAny (model prog w) A (execs body env) (TurnEnd h₀ env.locals [I] own (J (i + 1)) { s with heap := h, toks := tk } Q) E { s with heap := h, toks := tk })
    (done : ∀ m₁ news₁ h tk, J b.size m₁ news₁ → Fr h₀ env.locals h m₁ → News h₀ env.locals h news₁ → Q .next { s with heap := h, toks := tk }) :
    wpAny (model prog w) A (pyIter (.bytes b tb)) (fun it s₂ => LoopAtV prog w A h₀ env x body Q E it s₂) E s := by
  refine KBw.pyIter_bytes ?_
  have W := KBw.walks (prog := prog) (w := w) hh s.heap.objs.size b tb
  refine loopG J W ?_ ?_ ?_ ⟨_, Heap.get?_push_size _ rfl, rfl, rfl⟩ (F.push _) (fun p hp => ⟨Heap.get?_push_of_some _ (N p hp).1, (N p hp).2⟩) hj ?_ ?_
  · intro hm
    exact absurd F.ns.lt ((List.mem_singleton.mp hm) ▸ Nat.lt_irrefl _)
  · intro b' hb
    rw [List.mem_singleton.mp hb]
    exact next_is_new F
  · intro p hp hI
    exact absurd (Heap.lt_size (N p hp).1) ((List.mem_singleton.mp hI) ▸ Nat.lt_irrefl _)
  · rintro i v m₁ news₁ h tk own hi ⟨c, t, hc, rfl⟩ hJ hnw hown _ F₁ N₁
    exact turn i c t m₁ news₁ h tk own _ hc hJ (fun p hp e => hnw p hp (List.mem_singleton.mpr e)) (fun p hp => List.mem_singleton.mp (hown p hp)) F₁ N₁
  · intro m₁ news₁ h tk hJ F₁ N₁
    exact done m₁ news₁ h tk hJ F₁ N₁
end
theorem newsSub {h₀ h : Heap} {L : Addr} {news led : List (Addr × Obj)} (N : News h₀ L h news) (hs : ∀ p ∈ led, p ∈ news) : News h₀ L h led := fun p hp => N p (hs p hp)
theorem intsSnoc {vs : List Value} {ns : List Int} (h : IntsAre vs ns) (n : Int) (t : Tok) : IntsAre (vs ++ [.int n t]) (ns ++ [n]) := by
  induction h with
  | nil => exact .cons n t .nil
  | cons a u _ ih => exact .cons a u ih
theorem intsPush {va : Array Value} {ns : List Int} (h : IntsAre va.toList ns) (n : Int) (t : Tok) : IntsAre (va.push (.int n t)).toList (ns ++ [n]) := by
  rw [Array.toList_push]; exact intsSnoc h n t
theorem intsPushEq {va : Array Value} {ns : List Int} {n n' : Int} {t : Tok} (h : IntsAre va.toList ns) (e : n = n') : IntsAre (va.push (.int n t)).toList (ns ++ [n']) := e ▸ intsPush h n t
theorem takeSucc {b : Array UInt8} {i : Nat} {c : UInt8} (h : b[i]? = some c) : (KBw.bInts b).take (i + 1) = (KBw.bInts b).take i ++ [(c.toNat : Int)] := by
  rw [List.take_add_one, KBw.ints_get h]; rfl
theorem offLed {l I : Addr} {o o' : Obj} (h : ∀ p ∈ [(l, o)], p.1 ≠ I) : ∀ p ∈ [(l, o')], p.1 ∉ [I] := by
  intro p hp hI
  rw [List.mem_singleton.mp hp] at hI
  exact h (l, o) (.head _) (List.mem_singleton.mp hI)
theorem newsFlip {h₀ h : Heap} {L : Addr} {own led : List (Addr × Obj)} (N : News h₀ L h (own ++ led)) : News h₀ L h (led ++ own) :=
  newsSub N fun _ hp => List.mem_append.mpr (List.mem_append.mp hp).symm
theorem bytesOf {prog : Program} {w : World} {A : Around} {s : Shared} {E Q : Value → Shared → Prop} {h₀ : Heap} {L l : Addr} {va : Array Value} {k : Nat} {rest : List (Addr × Obj)} {out : List Int} (N : News h₀ L s.heap ((l, W.listOf va k) :: rest)) (hi : IntsAre va.toList out) (hr : ∀ n ∈ out, 0 ≤ n ∧ n < 256) (hz : va.size ≤ 1000000)
    (hh : A.handled = none) (h : ∀ h' tk t', (∀ b o, s.heap.get? b = some o → h'.get? b = some o) → Q (.bytes (byteArr out) t') { s with heap := h', toks := tk }) : wpAny (model prog w) A (call (.type "bytes") [.ref l]) Q E s := by
  refine call_bytes_ints (vs := va.toList) ⟨_, (N _ (.head _)).1, rfl, k, by simp⟩ hi hr (by rw [sizeLine_eq, Array.length_toList]; omega) hh (fun h' t k hk => h h' k t hk)
end Mine
end

section
open PySem PySem.W PySem.Calls PyProof.Rows
namespace Mine
section
variable {prog : Program} {w : World} {A : Around} {E : Value → Shared → Prop} {s : Shared} {env : Env} {h₀ : Heap} {x : Str} {body : List Stmt} {Q : Flow → Shared → Prop}
theorem loopRange {r : Addr} {n : Nat} {t u v : Tok} {m₀ : Str → Option Value} {news : List (Addr × Obj)} (J : Nat → (Str → Option Value) → List (Addr × Obj) → Prop)
    (hh : A.handled = none) (hr : IsRange s.heap r 0 (n : Int) 1 t u v) (hn : n ≤ 1000000) (F : Fr h₀ env.locals s.heap m₀) (N : News h₀ env.locals s.heap news) (hj : J 0 m₀ news)
    (turn : ∀ i t m₁ news₁ h tk own I, i < n → J i m₁ news₁ → (∀ p ∈ news₁, p.1 ≠ I) → (∀ p ∈ own, p.1 = I) → Fr h₀ env.locals h (fun y => if y = x then some (.int (i : Int) t) else m₁ y) → News h₀ env.locals h (own ++ news₁) →
      wpAny (model prog w) A (execs body env) (TurnEnd h₀ env.locals [I] own (J (i + 1)) { s with heap := h, toks := tk } Q) E { s with heap := h, toks := tk })
    (done : ∀ m₁ news₁ h tk, J n m₁ news₁ → Fr h₀ env.locals h m₁ → News h₀ env.locals h news₁ → Q .next { s with heap := h, toks := tk }) :
    wpAny (model prog w) A (pyIter (.ref r)) (fun it s₂ => LoopAtV prog w A h₀ env x body Q E it s₂) E s := by
  have hsz : (Builtin.Range.rangeSize 0 (n : Int) 1) = n := by
    unfold Builtin.Range.rangeSize
    simp
    intro e; omega
  refine wpAny_pyIter_range hr ?hsm ?hgo
  case hsm =>
    have f : ∀ z : Int, -1 ≤ z → z ≤ 1000000 → Builtin.Range.rangeFitsLong z = true := fun z a b => by
      unfold Builtin.Range.rangeFitsLong
      simp; omega
    rw [Builtin.Range.small]
    simp only [hsz]
    rw [f 0 (by omega) (by omega), f n (by omega) (by omega), f 1 (by omega) (by omega), if_pos (by decide), f (n + (1 - 1)) (by omega) (by omega)]
    simp
  have W := Walks.range (prog := prog) (w := w) hh s.heap.objs.size 0 1 n
  refine loopG J W ?_ ?_ ?_ ?_ (F.push _) (fun p hp => ⟨Heap.get?_push_of_some _ (N p hp).1, (N p hp).2⟩) hj ?_ ?_
  · intro hm
    exact absurd F.ns.lt ((List.mem_singleton.mp hm) ▸ Nat.lt_irrefl _)
  · intro b' hb
    rw [List.mem_singleton.mp hb]
    exact next_is_new F
  · intro p hp hI
    exact absurd (Heap.lt_size (N p hp).1) ((List.mem_singleton.mp hI) ▸ Nat.lt_irrefl _)
  · rw [hsz]
    have e1 : (0 : Int) + ((0 : Nat) : Int) * 1 = 0 := by omega
    have e2 : ((n : Int) - ((0 : Nat) : Int)) = n := by omega
    rw [e1, e2]
    exact Heap.get?_push_size _ rfl
  · rintro i v m₁ news₁ h tk own hi ⟨t, rfl⟩ hJ hnw hown _ F₁ N₁
    have e1 : (0 : Int) + (i : Int) * 1 = i := by omega
    rw [e1] at F₁
    exact turn i t m₁ news₁ h tk own _ hi hJ (fun p hp e => hnw p hp (List.mem_singleton.mpr e)) (fun p hp => List.mem_singleton.mp (hown p hp)) F₁ N₁
  · intro m₁ news₁ h tk hJ F₁ N₁
    exact done m₁ news₁ h tk hJ F₁ N₁
/-- for x in (a list) -/
theorem loopList {l : Addr} {items : Array Value} {m₀ : Str → Option Value} {news : List (Addr × Obj)} (J : Nat → (Str → Option Value) → List (Addr × Obj) → Prop)
    (hh : A.handled = none) (hl : s.heap.IsList l items) (hL : l ≠ env.locals) (F : Fr h₀ env.locals s.heap m₀) (N : News h₀ env.locals s.heap news) (hj : J 0 m₀ news)
    (turn : ∀ i v m₁ news₁ h tk own I, I ≠ l → items[i]? = some v → J i m₁ news₁ → (∀ p ∈ news₁, p.1 ≠ I) → (∀ p ∈ own, p.1 = I ∨ p.1 = l) → h.IsList l items → Fr h₀ env.locals h (fun y => if y = x then some v else m₁ y) → News h₀ env.locals h (own ++ news₁) →
      wpAny (model prog w) A (execs body env) (TurnEnd h₀ env.locals [I] own (J (i + 1)) { s with heap := h, toks := tk } Q) E { s with heap := h, toks := tk })
    (done : ∀ m₁ news₁ h tk, J items.size m₁ news₁ → Fr h₀ env.locals h m₁ → News h₀ env.locals h news₁ → Q .next { s with heap := h, toks := tk }) :
    wpAny (model prog w) A (pyIter (.ref l)) (fun it s₂ => LoopAtV prog w A h₀ env x body Q E it s₂) E s := by
  have hlt : l < s.heap.objs.size := by obtain ⟨o, ho, _⟩ := hl; exact Heap.lt_size ho
  refine wpAny_pyIter_list hl ?_
  have W := Walks.list (prog := prog) (w := w) hh s.heap.objs.size l (Nat.ne_of_lt hlt) items
  refine loopG J W ?_ ?_ ?_ ⟨?hst, ?hst2⟩ (F.push _) (fun p hp => ⟨Heap.get?_push_of_some _ (N p hp).1, (N p hp).2⟩) hj ?_ ?_
  · intro hm
    rcases List.mem_cons.mp hm with e | hm
    · exact absurd F.ns.lt (e ▸ Nat.lt_irrefl _)
    · exact hL (List.mem_singleton.mp hm).symm
  · intro b' hb
    rw [List.mem_singleton.mp hb]
    exact next_is_new F
  · intro p hp hI
    exact absurd (Heap.lt_size (N p hp).1) ((List.mem_singleton.mp hI) ▸ Nat.lt_irrefl _)
  case hst =>
    exact ⟨_, Heap.get?_push_size _ rfl, rfl, rfl⟩
  case hst2 =>
    obtain ⟨o, ho, r⟩ := hl
    exact ⟨o, Heap.get?_push_of_some _ ho, r⟩
  · rintro i v m₁ news₁ h tk own hi hP hJ hnw hown hst F₁ N₁
    exact turn i v m₁ news₁ h tk own _ (Ne.symm (Nat.ne_of_lt hlt)) hP hJ (fun p hp e => hnw p hp (List.mem_singleton.mpr e)) (fun p hp => by simpa using hown p hp) hst.2 F₁ N₁
  · intro m₁ news₁ h tk hJ F₁ N₁
    exact done m₁ news₁ h tk hJ F₁ N₁
end
end Mine
end

section
open PySem PySem.W PySem.Calls PyProof.Rows
namespace Mine
section
variable {prog : Program} {w : World} {A : Around} {E : Value → Shared → Prop} {s : Shared} {env : Env} {h₀ : Heap} {x : Str} {body : List Stmt} {Q : Flow → Shared → Prop}
theorem clsNe {h₀ h : Heap} {L : Addr} {news : List (Addr × Obj)} (N : News h₀ L h news) {p q : Addr × Obj} (hp : p ∈ news) (hq : q ∈ news) (hc : p.2.cls ≠ q.2.cls) : p.1 ≠ q.1 := fun e => by
  have h1 := (N p hp).1
  have h2 := (N q hq).1
  rw [e, h2] at h1
  exact hc (congrArg Obj.cls (Option.some.inj h1).symm)
/-- for x in (a list), the iterator named -/
theorem loopListB {l : Addr} {items : Array Value} {m₀ : Str → Option Value} {news : List (Addr × Obj)} (J : Nat → (Str → Option Value) → List (Addr × Obj) → Prop)
    (hh : A.handled = none) (hl : s.heap.IsList l items) (hL : l ≠ env.locals) (F : Fr h₀ env.locals s.heap m₀) (N : News h₀ env.locals s.heap news) (hj : J 0 m₀ news)
    (turn : ∀ i v m₁ news₁ h tk own I, I ≠ l → items[i]? = some v → J i m₁ news₁ → (∀ p ∈ news₁, p.1 ≠ I) → (∀ p ∈ own, p.1 = I ∨ p.1 = l) → (∃ oI, (I, oI) ∈ own ∧ oI.cls = .type "list_iterator") → Fr h₀ env.locals h (fun y => if y = x then some v else m₁ y) → News h₀ env.locals h (own ++ news₁) →
      wpAny (model prog w) A (execs body env) (TurnEnd h₀ env.locals [I] own (J (i + 1)) { s with heap := h, toks := tk } Q) E { s with heap := h, toks := tk })
    (done : ∀ m₁ news₁ h tk, J items.size m₁ news₁ → Fr h₀ env.locals h m₁ → News h₀ env.locals h news₁ → Q .next { s with heap := h, toks := tk }) :
    wpAny (model prog w) A (pyIter (.ref l)) (fun it s₂ => LoopAtV prog w A h₀ env x body Q E it s₂) E s := by
  have hlt : l < s.heap.objs.size := by obtain ⟨o, ho, _⟩ := hl; exact Heap.lt_size ho
  refine wpAny_pyIter_list hl ?_
  have hI₀ : h₀.get? s.heap.objs.size = none := next_is_new F
  refine ⟨s.heap.objs.size, _, _, _, _, _, m₀, news, J, rfl, Walks.list (prog := prog) (w := w) hh s.heap.objs.size l (Nat.ne_of_lt hlt) items, ?_, ?_, ?_, ⟨?_, ?_⟩, F.push _, fun p hp => ⟨Heap.get?_push_of_some _ (N p hp).1, (N p hp).2⟩, hj, ?_, ?_⟩
  · intro hm
    rcases List.mem_cons.mp hm with e | hm
    · exact absurd F.ns.lt (e ▸ Nat.lt_irrefl _)
    · exact hL (List.mem_singleton.mp hm).symm
  · intro b' hb
    rw [List.mem_singleton.mp hb]
    exact hI₀
  · intro p hp hI
    exact absurd (Heap.lt_size (N p hp).1) ((List.mem_singleton.mp hI) ▸ Nat.lt_irrefl _)
  · exact ⟨_, Heap.get?_push_size _ rfl, rfl, rfl⟩
  · obtain ⟨o, ho, r⟩ := hl
    exact ⟨o, Heap.get?_push_of_some _ ho, r⟩
  · rintro i v m₁ news₁ s₁ own ⟨h, tk, rfl⟩ hi hP hJ hoff hown _ hall hst F₁ N₁
    obtain ⟨oI, heI, hcI, _⟩ := hst.1
    refine wpAny_mono (turn i v m₁ news₁ h tk own _ (Ne.symm (Nat.ne_of_lt hlt)) hP hJ (fun p hp e => hoff p hp (List.mem_singleton.mpr e)) (fun p hp => by simpa using hown p hp) ⟨oI, hall _ (.head _) hI₀ _ heI, hcI⟩ F₁ N₁) (fun f s₂ p => ?_) fun _ _ e => e
    have fin : (∃ h' tk' m' news', s₂ = { s with heap := h', toks := tk' } ∧ Fr h₀ env.locals h' m' ∧ News h₀ env.locals h' (own ++ news') ∧ (∀ p ∈ news', p.1 ∉ [s.heap.objs.size]) ∧ J (i + 1) m' news') →
        LoopStepU h₀ env.locals [s.heap.objs.size] own (J (i + 1)) { s with heap := h, toks := tk } .next s₂ := by
      rintro ⟨h', tk', m', news', e, F', N', hw, hm⟩
      exact ⟨rfl, h', tk', m', news', e, F', N', hw, hm⟩
    cases f with
    | ret v => exact .ret p
    | brk => exact .brk p
    | next => exact .next (fin p)
    | cont => exact .cont (fin p)
  · rintro h' tk m' news' F' N' _ hJ
    exact done m' news' h' tk hJ F' N'
end
end Mine
end

section
open PySem PySem.W PySem.Calls PyProof.Rows
namespace Mine
namespace Tx
open PySem.Builtin PySem.Builtin.Str PySem.StrLaws
/-- the places that a scan takes: n of them from i on, none ahead of free -/
def scan (ok : Nat → Bool) (k : Nat) : Nat → Nat → Nat → List Nat
  | 0, _, _ => []
  | n + 1, i, free => if free ≤ i ∧ ok i = true then i :: scan ok k n (i + 1) (i + k) else scan ok k n (i + 1) free
def okAt (s sub : PySem.Str) (hi : Nat) (i : Nat) : Bool := decide (i + sub.length ≤ hi) && subAt s sub i
theorem occ_scan (s sub : PySem.Str) (hi limit : Nat) : ∀ (n i : Nat) (st : Array Nat × Nat), st.1.size ≤ limit →
    (forIn (List.range' i n) st (occBody s sub hi limit)).run.fst.toList = st.1.toList ++ (scan (okAt s sub hi) sub.length n i st.2).take (limit - st.1.size)
  | 0, i, st, _ => by simp [List.range', scan]
  | n + 1, i, st, hle => by
    rw [List.range'_succ, List.forIn_cons]
    obtain ⟨fd, free⟩ := st
    dsimp only at hle
    by_cases hf : free ≤ i ∧ okAt s sub hi i = true
    · have hf2 : i + sub.length ≤ hi ∧ subAt s sub i = true := by
        have := hf.2; unfold okAt at this; rw [Bool.and_eq_true, decide_eq_true_eq] at this; exact this
      have hs : scan (okAt s sub hi) sub.length (n + 1) i free = i :: scan (okAt s sub hi) sub.length n (i + 1) (i + sub.length) := if_pos hf
      rw [hs]
      by_cases hlt : fd.size < limit
      · have hb : occBody s sub hi limit i (fd, free) = pure (ForInStep.yield (fd.push i, i + sub.length)) := by
          unfold occBody; rw [if_pos ⟨⟨⟨hlt, hf.1⟩, hf2.1⟩, hf2.2⟩]
        rw [hb]
        show (forIn (List.range' (i + 1) n) (fd.push i, i + sub.length) (occBody s sub hi limit)).run.fst.toList = _
        rw [occ_scan s sub hi limit n (i + 1) (fd.push i, i + sub.length) (by simp only [Array.size_push]; omega)]
        simp only [Array.toList_push, Array.size_push]
        have e : limit - fd.size = (limit - (fd.size + 1)) + 1 := by omega
        rw [e, List.take_succ_cons, List.append_assoc]; rfl
      · have hb : occBody s sub hi limit i (fd, free) = pure (ForInStep.yield (fd, free)) := by
          unfold occBody; rw [if_neg (fun z => hlt z.1.1.1)]
        rw [hb]
        show (forIn (List.range' (i + 1) n) (fd, free) (occBody s sub hi limit)).run.fst.toList = _
        rw [occ_scan s sub hi limit n (i + 1) (fd, free) hle]
        have e : limit - fd.size = 0 := by omega
        dsimp only
        rw [e]; simp
    · have hb : occBody s sub hi limit i (fd, free) = pure (ForInStep.yield (fd, free)) := by
        unfold occBody
        rw [if_neg (fun z => hf ⟨z.1.1.2, by unfold okAt; rw [Bool.and_eq_true, decide_eq_true_eq]; exact ⟨z.1.2, z.2⟩⟩)]
      rw [hb]
      show (forIn (List.range' (i + 1) n) (fd, free) (occBody s sub hi limit)).run.fst.toList = _
      rw [occ_scan s sub hi limit n (i + 1) (fd, free) hle]
      have hs : scan (okAt s sub hi) sub.length (n + 1) i free = scan (okAt s sub hi) sub.length n (i + 1) free := if_neg hf
      rw [hs]
theorem occ_is (s sub : PySem.Str) (limit : Nat) : occurrences s sub 0 s.length limit = (scan (okAt s sub s.length) sub.length (s.length + 1) 0 0).take limit := by
  rw [occ_eq, occ_scan s sub s.length limit _ _ _ (by simp)]
  simp
theorem scan_skip {ok : Nat → Bool} {k free n : Nat} : ∀ (m i : Nat), (∀ j, i ≤ j → j < i + m → ¬ (free ≤ j ∧ ok j = true)) → scan ok k (m + n) i free = scan ok k n (i + m) free
  | 0, i, _ => by simp
  | m + 1, i, h => by
    have e : m + 1 + n = (m + n) + 1 := by omega
    rw [e]
    have : scan ok k (m + n + 1) i free = scan ok k (m + n) (i + 1) free := if_neg (h i (by omega) (by omega))
    rw [this, scan_skip m (i + 1) (fun j a b => h j (by omega) (by omega))]
    congr 1; omega
theorem scan_hit {ok : Nat → Bool} {k n i free : Nat} (hf : free ≤ i) (h : ok i = true) : scan ok k (n + 1) i free = i :: scan ok k n (i + 1) (i + k) := if_pos ⟨hf, h⟩

abbrev mkS (l : List Nat) : PySem.Str := ⟨l.toArray⟩
theorem mkS_len (l : List Nat) : (mkS l).length = l.length := by show l.toArray.size = _; simp
theorem okAt_mk {l m : List Nat} {i : Nat} : okAt (mkS l) (mkS m) (mkS l).length i = (decide (i + m.length ≤ l.length) && ((l.drop i).take m.length == m)) := by
  unfold okAt
  rw [subAt_eq]
  simp [mkS_len]
theorem strSub_mk {l : List Nat} {i j : Nat} : strSub (mkS l) i j = mkS ((l.drop i).take (j - i)) := by
  apply PySem.Str.ext'
  apply Array.toList_inj.mp
  rw [strSub_toList]

/-- a text cut at its first colon -/
theorem partition_at {x t : List Nat} {c : Nat} (hx : c ∉ x) : Txt.partition (mkS (x ++ c :: t)) (mkS [c]) = (mkS x, mkS [c], mkS t) := by
  unfold Txt.partition
  have hocc : occurrences (mkS (x ++ c :: t)) (mkS [c]) 0 (mkS (x ++ c :: t)).length 1 = [x.length] := by
    rw [occ_is]
    have hn : (mkS (x ++ c :: t)).length + 1 = x.length + ((t.length + 1) + 1) := by rw [mkS_len]; simp; omega
    have h1 : (mkS [c]).length = 1 := rfl
    rw [hn, scan_skip x.length 0 ?h, Nat.zero_add, scan_hit (Nat.zero_le _) ?h2]
    · rw [List.take_succ_cons, List.take_zero]
    case h =>
      rintro j _ hj ⟨_, hok⟩
      rw [okAt_mk, Bool.and_eq_true] at hok
      have := hok.2
      rw [List.drop_append_of_le_length (by omega)] at this
      have hd : x.drop j = x[j]'(by omega) :: x.drop (j + 1) := List.drop_eq_getElem_cons (by omega)
      rw [hd, List.cons_append] at this
      have e1 : [c].length = 1 := rfl
      rw [e1, List.take_succ_cons, List.take_zero] at this
      have e2 : x[j]'(by omega) = c := by
        have := eq_of_beq this
        exact (List.cons.inj this).1
      exact hx (e2 ▸ List.getElem_mem _)
    case h2 =>
      rw [okAt_mk]
      simp
  rw [hocc]
  dsimp only
  rw [strSub_mk, strSub_mk]
  have h1 : (mkS [c]).length = 1 := rfl
  rw [h1, mkS_len]
  refine Prod.ext ?_ (Prod.ext rfl ?_)
  · simp
  · show mkS _ = mkS t
    have e2 : ((x ++ c :: t).drop (x.length + 1)) = t := by
      rw [List.drop_append, List.drop_eq_nil_of_le (by omega)]
      simp
    rw [e2, List.take_of_length_le (by simp only [List.length_append, List.length_cons]; omega)]

theorem slice_tail {c : Nat} {l : List Nat} : Txt.slice (mkS (c :: l)) (some 1) none = mkS l := by
  unfold Txt.slice
  have hn : (mkS (c :: l)).length = l.length + 1 := by rw [mkS_len]; rfl
  have e : strSliceIndices (some 1) none 1 (mkS (c :: l)).length = (List.range l.length).map (· + 1) := by
    rw [hn]
    unfold strSliceIndices sliceRange
    dsimp only
    simp only [show (1 : Int) > 0 by decide, if_true, show ¬ ((1 : Int) < 0) by decide, if_false]
    have hmax : max (0 : Int) (min 1 ((l.length + 1 : Nat) : Int)) = 1 := by omega
    rw [hmax]
    by_cases h0 : (1 : Int) < ((l.length + 1 : Nat) : Int)
    · rw [if_pos h0]
      have hc : (((l.length + 1 : Nat) : Int) - 1 + 1 - 1) / 1 = l.length := by omega
      rw [hc]
      simp only [Int.toNat_natCast]
      refine List.map_congr_left fun k _ => ?_
      omega
    · rw [if_neg h0]
      have : l.length = 0 := by omega
      rw [this]; rfl
  rw [e, if_neg (by rw [List.length_map, List.length_range, hn]; simp)]
  congr 1
  apply Array.toList_inj.mp
  simp only [List.filterMap_map]
  have : ∀ n, n ≤ l.length → List.filterMap ((fun i => (mkS (c :: l)).cps[i]?) ∘ fun x => x + 1) (List.range n) = l.take n := by
    intro n
    induction n with
    | zero => intro _; simp
    | succ n ih =>
      intro h
      rw [List.range_succ, List.filterMap_append, ih (by omega), List.take_add_one]
      congr 1
      have e3 : (mkS (c :: l)).cps[n + 1]? = l[n]? := by show ((c :: l).toArray)[n + 1]? = _; simp
      show List.filterMap _ [n] = _
      rw [List.filterMap_cons, List.filterMap_nil]
      have e4 : ((fun i => (mkS (c :: l)).cps[i]?) ∘ fun x => x + 1) n = l[n]? := e3
      rw [e4]
      cases l[n]? <;> rfl
  rw [this l.length (Nat.le_refl _), List.take_length]
theorem slice_head {c : Nat} {l : List Nat} : Txt.slice (mkS (c :: l)) none (some 1) = mkS [c] := by
  unfold Txt.slice
  have hn : (mkS (c :: l)).length = l.length + 1 := by rw [mkS_len]; rfl
  have e : strSliceIndices none (some 1) 1 (mkS (c :: l)).length = [0] := by
    rw [hn]
    unfold strSliceIndices sliceRange
    dsimp only
    simp only [show (1 : Int) > 0 by decide, if_true, show ¬ ((1 : Int) < 0) by decide, if_false]
    have hmax : max (0 : Int) (min 1 ((l.length + 1 : Nat) : Int)) = 1 := by omega
    rw [hmax]
    rfl
  rw [e]
  split
  · rename_i h
    rw [hn] at h
    have : l.length = 0 := by simpa using h
    rw [List.eq_nil_of_length_eq_zero this]
  · simp
end Tx
end Mine
end

section
open PySem PySem.W PySem.Calls PyProof.Rows
namespace Mine
/-- a row as it is sent: one that begins with a dot has one more -/
def escT (l : List Nat) : List Nat := if l.head? = some 46 then 46 :: l else l
theorem encT_mem (o : List Int) : ∀ c ∈ encT o, 43 ≤ c ∧ c ≤ 122 := by
  intro c hc
  obtain ⟨n, hn, e⟩ := List.mem_map.mp hc
  have := enc_chars o n hn
  omega
theorem encT_b64 (o : List Int) : KBw.bInts ((encT o).toArray.map (·.toUInt8)) = enc o := by
  unfold KBw.bInts
  rw [Array.toList_map, List.map_map]
  unfold encT
  show List.map _ (List.map Int.toNat (enc o)) = _
  rw [List.map_map]
  refine (List.map_congr_left fun n hn => ?_).trans (List.map_id _)
  have := enc_chars o n hn
  show (((UInt8.ofNat n.toNat).toNat : Nat) : Int) = n
  rw [UInt8.toNat_ofNat']
  omega
theorem escT_ne (x : List Nat) (o : List Int) : (Tx.mkS (escT (rowT x o)) == Str.ofString ".") = false := by
  rw [beq_eq_false_iff_ne]
  intro e
  have e1 : (Tx.mkS (escT (rowT x o))).cps.toList = [46] := by rw [e]; decide +kernel
  have e2 : escT (rowT x o) = [46] := by simpa using e1
  have h58 : 58 ∈ escT (rowT x o) := by
    unfold escT rowT
    split <;> simp
  rw [e2] at h58
  simp at h58
theorem head_no (c : Nat) : (Tx.mkS [c] == Str.ofString ".") = decide (c = 46) := by
  by_cases h : c = 46
  · subst h; decide +kernel
  · rw [decide_eq_false h, beq_eq_false_iff_ne]
    intro e
    have e1 : (Tx.mkS [c]).cps.toList = [46] := by rw [e]; decide +kernel
    exact h (by simpa using e1)
theorem colon : Str.ofString ":" = Tx.mkS [58] := by decide +kernel
/-- what law_read asks of its row -/
theorem read_cases {x : List Nat} {o : List Int} (hx : 58 ∉ x) :
    ((Txt.slice (Tx.mkS (escT (rowT x o))) none (some 1) == Str.ofString ".") = true ∧ Txt.partition (Txt.slice (Tx.mkS (escT (rowT x o))) (some 1) none) (Str.ofString ":") = (Tx.mkS x, Tx.mkS [58], Tx.mkS (encT o))) ∨
    ((Txt.slice (Tx.mkS (escT (rowT x o))) none (some 1) == Str.ofString ".") = false ∧ Txt.partition (Tx.mkS (escT (rowT x o))) (Str.ofString ":") = (Tx.mkS x, Tx.mkS [58], Tx.mkS (encT o))) := by
  by_cases h : (rowT x o).head? = some 46
  · left
    have e : escT (rowT x o) = 46 :: rowT x o := if_pos h
    rw [e, Tx.slice_head, Tx.slice_tail, colon]
    exact ⟨by rw [head_no]; rfl, Tx.partition_at hx⟩
  · right
    have e : escT (rowT x o) = rowT x o := if_neg h
    rw [e, colon]
    refine ⟨?_, Tx.partition_at hx⟩
    have : ∃ c l, rowT x o = c :: l := by
      unfold rowT
      cases x with
      | nil => exact ⟨_, _, rfl⟩
      | cons c l => exact ⟨_, _, rfl⟩
    obtain ⟨c, l, e2⟩ := this
    have h2 : c ≠ 46 := fun hc => h (by rw [e2, hc]; rfl)
    rw [e2, Tx.slice_head]
    rw [head_no, decide_eq_false h2]
end Mine
end

section
open PySem PySem.W PySem.Calls PyProof.Rows
namespace Mine
open Rx Tx PySem.Builtin PySem.Builtin.Str PySem.StrLaws
/-- a row bears no line end -/
def Plain (r : List Nat) : Prop := (∀ c ∈ r, c ≠ 10 ∧ c ≠ 13) ∧ r ≠ []
def crows (rows : List (List Nat)) : List Nat := (rows.map (· ++ [13, 10])).flatten
def sepOf (k : Nat) : List Nat := if k % 3 = 0 then [10] else if k % 3 = 1 then [13] else [13, 10]
def textUp (rows : List (List Nat)) : Nat → List Nat
  | 0 => []
  | k + 1 => textUp rows k ++ (rows.getD k [] ++ sepOf k)
theorem crlf_plainL : ∀ (r S : List Nat), (∀ c ∈ r, c ≠ 10 ∧ c ≠ 13) → crlf (r ++ S) = r ++ crlf S
  | [], S, _ => rfl
  | c :: r, S, h => by
    have hc := h c (.head _)
    have e : crlf (c :: (r ++ S)) = c :: crlf (r ++ S) := by rw [crlf.eq_def]; dsimp only; rw [if_neg hc.2, if_neg hc.1]
    rw [List.cons_append, e, crlf_plainL r S fun d hd => h d (.tail _ hd)]
    rfl
theorem crlf_13 (B : List Nat) (h : B.head? ≠ some 10) : crlf (13 :: B) = 13 :: 10 :: crlf B := by
  cases B with
  | nil => rfl
  | cons b B =>
    have hb : b ≠ 10 := fun e => h (by rw [e]; rfl)
    rw [crlf.eq_def]
    dsimp only
    rw [if_pos rfl]
    split
    · rename_i e; exact absurd (List.cons.inj e).1 hb
    · rfl
theorem crlf_app : ∀ (n : Nat) (A B : List Nat), A.length ≤ n → B.head? ≠ some 10 → crlf (A ++ B) = crlf A ++ crlf B
  | _, [], B, _, _ => rfl
  | 0, a :: A, B, h, _ => absurd h (by simp)
  | n + 1, a :: A, B, h, hB => by
    by_cases h13 : a = 13
    · subst h13
      cases A with
      | nil => rw [List.singleton_append, crlf_13 B hB]; rfl
      | cons b A =>
        by_cases hb : b = 10
        · subst hb
          have e : ∀ r, crlf (13 :: 10 :: r) = 13 :: 10 :: crlf r := fun r => by rw [crlf.eq_def]; rfl
          rw [List.cons_append, List.cons_append, e, e, crlf_app n A B (by simp at h; omega) hB]
          rfl
        · rw [List.cons_append, crlf_13 _ (by simp [hb]), crlf_13 _ (by simp [hb]), crlf_app n (b :: A) B (by simp at h ⊢; omega) hB]
          rfl
    · have ih := crlf_app n A B (by simp at h; omega) hB
      have e : ∀ l, crlf (a :: l) = if a = 10 then 13 :: 10 :: crlf l else a :: crlf l := fun l => by rw [crlf.eq_def]; dsimp only; rw [if_neg h13]
      rw [List.cons_append, e, e, ih]
      split <;> rfl
theorem crlf_sep (k : Nat) : crlf (sepOf k) = [13, 10] := by
  unfold sepOf
  split
  · decide
  · split <;> decide
theorem crlf_up {rows : List (List Nat)} (h : ∀ r ∈ rows, Plain r) : ∀ k, k ≤ rows.length → crlf (textUp rows k) = crows (rows.take k)
  | 0, _ => by simp [textUp, crows, crlf]
  | k + 1, hk => by
    have hp := h (rows[k]'(by omega)) (List.getElem_mem _)
    have e : rows.getD k [] = rows[k]'(by omega) := by simp [List.getD, List.getElem?_eq_getElem (show k < rows.length by omega)]
    show crlf (textUp rows k ++ (rows.getD k [] ++ sepOf k)) = _
    rw [e, crlf_app _ _ _ (Nat.le_refl _) ?_, crlf_up h k (by omega), crlf_plainL _ _ hp.1, crlf_sep]
    · rw [List.take_succ_eq_append_getElem (by omega)]
      unfold crows
      rw [List.map_append, List.flatten_append]
      simp
    · obtain ⟨hc, hne⟩ := hp
      cases hr : rows[k]'(by omega) with
      | nil => exact absurd hr hne
      | cons c r =>
        intro e
        have := (hc c (by rw [hr]; exact .head _)).1
        simp at e
        exact this e
theorem dots_false : ∀ (r S : List Nat), (∀ c ∈ r, c ≠ 10 ∧ c ≠ 13) → dots false (r ++ 13 :: 10 :: S) = r ++ 13 :: 10 :: dots true S
  | [], S, _ => rfl
  | c :: r, S, h => by
    have hc := (h c (.head _)).1
    have e : (c == 10) = false := beq_eq_false_iff_ne.mpr hc
    show (if false = true ∧ c = 46 then _ else c :: dots (c == 10) (r ++ 13 :: 10 :: S)) = _
    rw [if_neg (fun z => by cases z.1), e, dots_false r S fun d hd => h d (.tail _ hd)]
    rfl
theorem dots_row (r S : List Nat) (h : ∀ c ∈ r, c ≠ 10 ∧ c ≠ 13) : dots true (r ++ 13 :: 10 :: S) = escT r ++ 13 :: 10 :: dots true S := by
  cases r with
  | nil => rfl
  | cons c r =>
    have hr : ∀ d ∈ r, d ≠ 10 ∧ d ≠ 13 := fun d hd => h d (.tail _ hd)
    have hc := (h c (.head _)).1
    show (if true = true ∧ c = 46 then 46 :: 46 :: dots false (r ++ 13 :: 10 :: S) else c :: dots (c == 10) (r ++ 13 :: 10 :: S)) = _
    have e : (c == 10) = false := beq_eq_false_iff_ne.mpr hc
    rw [e, dots_false r S hr]
    unfold escT
    by_cases h46 : c = 46
    · subst h46; rw [if_pos ⟨rfl, rfl⟩]; rfl
    · rw [if_neg (fun z => h46 z.2), if_neg (by simpa using h46)]; rfl
theorem dots_rows : ∀ rows : List (List Nat), (∀ r ∈ rows, Plain r) → dots true (crows rows) = crows (rows.map escT)
  | [], _ => rfl
  | r :: rows, h => by
    have e : crows (r :: rows) = r ++ 13 :: 10 :: crows rows := by simp [crows]
    have e2 : crows ((r :: rows).map escT) = escT r ++ 13 :: 10 :: crows (rows.map escT) := by simp [crows]
    rw [e, e2, dots_row r _ (h r (.head _)).1, dots_rows rows fun x hx => h x (.tail _ hx)]
theorem quoted_text {rows : List (List Nat)} (h : ∀ r ∈ rows, Plain r) : quoted (textUp rows rows.length) = crows (rows.map escT) := by
  unfold quoted
  rw [crlf_up h _ (Nat.le_refl _), List.take_length, dots_rows rows h]
theorem escT_plain {r : List Nat} (h : Plain r) : Plain (escT r) := by
  unfold escT
  split
  · refine ⟨fun c hc => ?_, by simp⟩
    rcases List.mem_cons.mp hc with rfl | hc
    · decide
    · exact h.1 c hc
  · exact h
def cuts : Nat → List (List Nat) → List Nat
  | _, [] => []
  | a, r :: rs => (a + r.length) :: cuts (a + r.length + 2) rs
theorem cuts_len : ∀ (rows : List (List Nat)) (a : Nat), (cuts a rows).length ≤ (crows rows).length
  | [], _ => Nat.zero_le _
  | r :: rows, a => by
    have e : crows (r :: rows) = r ++ 13 :: 10 :: crows rows := by simp [crows]
    have := cuts_len rows (a + r.length + 2)
    rw [e]
    simp only [cuts, List.length_cons, List.length_append]; omega
theorem scan_rows : ∀ (rows : List (List Nat)) (P : List Nat) (T : List Nat) (free : Nat), T = P ++ crows rows → free ≤ P.length → (∀ r ∈ rows, ∀ c ∈ r, c ≠ 10 ∧ c ≠ 13) →
    scan (okAt (mkS T) (mkS [13, 10]) (mkS T).length) 2 ((crows rows).length + 1) P.length free = cuts P.length rows
  | [], P, T, free, e, hf, _ => by
    subst e
    show (if free ≤ P.length ∧ okAt _ _ _ P.length = true then _ else _) = _
    rw [if_neg]
    · rfl
    · rintro ⟨_, h⟩
      rw [okAt_mk, Bool.and_eq_true, decide_eq_true_eq] at h
      have := h.1
      simp [crows] at this
      omega
  | r :: rows, P, T, free, e, hf, hr => by
    have ec : crows (r :: rows) = r ++ 13 :: 10 :: crows rows := by simp [crows]
    have hn : (crows (r :: rows)).length + 1 = r.length + ((1 + ((crows rows).length + 1)) + 1) := by rw [ec]; simp only [List.length_append, List.length_cons]; omega
    rw [hn, scan_skip r.length P.length ?h, scan_hit (by omega) ?h2, scan_skip 1 (P.length + r.length + 1) ?h3]
    · have := scan_rows rows (P ++ r ++ [13, 10]) T (P.length + r.length + 2) (by rw [e, ec]; simp) (by simp only [List.length_append, List.length_cons, List.length_nil]; omega) fun x hx => hr x (.tail _ hx)
      have el : (P ++ r ++ [13, 10]).length = P.length + r.length + 2 := by simp only [List.length_append, List.length_cons, List.length_nil]
      rw [el] at this
      show _ :: scan _ 2 _ (P.length + r.length + 1 + 1) _ = _
      rw [this]
      rfl
    case h =>
      rintro j hj hj2 ⟨_, hok⟩
      rw [okAt_mk, Bool.and_eq_true] at hok
      have hd := eq_of_beq hok.2
      rw [e, ec, List.drop_append, List.drop_eq_nil_of_le hj, List.nil_append, List.drop_append_of_le_length (by omega)] at hd
      have hd2 : r.drop (j - P.length) = r[j - P.length]'(by omega) :: r.drop (j - P.length + 1) := List.drop_eq_getElem_cons (by omega)
      rw [hd2, List.cons_append] at hd
      have e1 : [13, 10].length = 1 + 1 := rfl
      rw [e1, List.take_succ_cons] at hd
      exact (hr r (.head _) _ (List.getElem_mem _)).2 (List.cons.inj hd).1
    case h2 =>
      rw [okAt_mk, e, ec]
      have hd : (P ++ (r ++ 13 :: 10 :: crows rows)).drop (P.length + r.length) = 13 :: 10 :: crows rows := by
        rw [← List.drop_drop, List.drop_left, List.drop_left]
      rw [hd, Bool.and_eq_true, decide_eq_true_eq]
      refine ⟨by simp only [List.length_append, List.length_cons, List.length_nil]; omega, ?_⟩
      simp
    case h3 =>
      rintro j hj hj2 ⟨hf2, _⟩
      omega
theorem parts_rows : ∀ (rows : List (List Nat)) (P : List Nat) (T : List Nat), T = P ++ crows rows → partsFrom (mkS T) 2 P.length (cuts P.length rows) = rows.map mkS ++ [mkS []]
  | [], P, T, e => by
    subst e
    show [strSub _ _ _] = _
    rw [Tx.strSub_mk]
    simp [crows]
  | r :: rows, P, T, e => by
    have ec : crows (r :: rows) = r ++ 13 :: 10 :: crows rows := by simp [crows]
    have := parts_rows rows (P ++ r ++ [13, 10]) T (by rw [e, ec]; simp)
    have el : (P ++ r ++ [13, 10]).length = P.length + r.length + 2 := by simp only [List.length_append, List.length_cons, List.length_nil]
    rw [el] at this
    show strSub (mkS T) P.length (P.length + r.length) :: partsFrom (mkS T) 2 (P.length + r.length + 2) (cuts (P.length + r.length + 2) rows) = _
    rw [this, Tx.strSub_mk, e, ec, List.drop_left, List.take_append_of_le_length (by omega), Nat.add_sub_cancel_left, List.take_length]
    rfl
theorem strKind_one (s : PySem.Str) : 1 ≤ PySem.Builtin.Str.strKind s := by
  unfold PySem.Builtin.Str.strKind
  split
  · omega
  · split <;> omega
theorem split_rows {rows : List (List Nat)} (h : ∀ r ∈ rows, Plain r) : Txt.split (mkS (crows rows)) (Str.ofString "\r\n") = rows.map mkS ++ [mkS []] := by
  have ey : Str.ofString "\r\n" = mkS [13, 10] := by decide +kernel
  rw [ey]
  cases rows with
  | nil => rfl
  | cons r rs =>
    have ec : crows (r :: rs) = r ++ 13 :: 10 :: crows rs := by simp [crows]
    have hocc : occurrences (mkS (crows (r :: rs))) (mkS [13, 10]) 0 (mkS (crows (r :: rs))).length ((mkS (crows (r :: rs))).length + 1) = cuts 0 (r :: rs) := by
      rw [occ_is]
      have h1 : (mkS [13, 10]).length = 2 := rfl
      rw [h1]
      have := scan_rows (r :: rs) [] (crows (r :: rs)) 0 rfl (Nat.le_refl _) fun x hx => (h x hx).1
      have e2 : (mkS (crows (r :: rs))).length = (crows (r :: rs)).length := mkS_len _
      rw [← e2] at this
      have e3 : ([] : List Nat).length = 0 := rfl
      rw [e3] at this
      rw [this, List.take_of_length_le]
      have := cuts_len (r :: rs) 0
      omega
    unfold Txt.split
    rw [hocc, if_neg, if_neg (by simp [cuts]), partsBetween_eq]
    · exact parts_rows (r :: rs) [] _ rfl
    · have h1 : PySem.Builtin.Str.strKind (mkS [13, 10]) = 1 := by decide +kernel
      have h2 := strKind_one (mkS (crows (r :: rs)))
      have h3 : (mkS [13, 10]).length = 2 := rfl
      rw [h1, h3, mkS_len, ec]
      simp only [List.length_append, List.length_cons, Bool.or_eq_true, decide_eq_true_eq]
      rw [ec] at h2
      omega
theorem rowT_plain {x : List Nat} {o : List Int} (hx : ∀ c ∈ x, c ≠ 10 ∧ c ≠ 13) : Plain (rowT x o) := by
  refine ⟨fun c hc => ?_, by unfold rowT; simp⟩
  unfold rowT at hc
  rcases List.mem_append.mp hc with hc | hc
  · exact hx c hc
  · rcases List.mem_cons.mp hc with rfl | hc
    · decide
    · have := encT_mem o c hc; omega
end Mine
end

section
example : True := by w_top off; trivial
open PySem PySem.W PySem.Calls PyProof.Rows
namespace Mine
example : (topk.heap_39, PySem.Challenge.rw_kq0049_01) = (topk.heap_39, PySem.Challenge.rw_kq0049_01) := by k_fill; rfl
local macro_rules | `(tactic| walk_at "call type:type") => `(tactic| k_extra "u3")
example : True := by
  k_with "u3" => ((with_reducible show wpAny _ _ (call (Value.type "type") [Value.bytes _ _]) _ _ _); refine call_type_of (Tx := "bytes") (typeIs_bytes _ _ _) (by decide +kernel) ?_)
  trivial
set_option pp.deepTerms false
set_option pp.deepTerms.threshold 4
set_option maxRecDepth 100000
theorem asInt {R : Result → Shared → Prop} {s : Shared} {x y : Int} {t : Tok} (e : x = y) (h : R (.ok (.ret (.int y t))) s) : R (.ok (.ret (.int x t))) s := e ▸ h
section
variable {w : World} {A : Around} {s : Shared} {mean : ExcName → Option Value} {mg mb : Str → Option Value} {R : Result → Shared → Prop}
set_option maxHeartbeats 8000000 in
theorem b64_value_spec {c : Int} {tk : Tok}
   (hd : A.depth < 460) (X : (topk.heap_39 w.params).In s.heap) (T : Top VW LO mean mg mb s.heap) (hlo : 0 ≤ c) (hhi : c < 256)
   (h : ∀ h' tk' t, 0 ≤ b64v c → b64v c ≤ 64 → Keep s.heap h' → R (.ok (.ret (.int (b64v c) t))) {s with heap := h', toks := tk'}) :
   codeAny (model PP w) A (.call (.ref 104) ⟨[.int c tk], []⟩) R s := by
  walk_at "menter"
  intro h₁ F N
  walk_at "mwalk"
  all_goals (try dsimp only)
  all_goals exact asInt (by unfold b64v; (repeat' split) <;> omega) (h _ _ _ (b64v_range c).1 (b64v_range c).2 F.keep)
set_option maxHeartbeats 8000000 in
theorem truth_spec (hd : A.depth < 460) (X : (topk.heap_39 w.params).In s.heap) (T : Top VW LO mean mg mb s.heap) 
   (h : ∀ h' tk', Keep s.heap h' → R (.ok (.ret (.bool false))) {s with heap := h', toks := tk'}) :
   codeAny (model PP w) A (.call (.ref 97) ⟨[.bool false], []⟩) R s := by
  walk_at "menter"
  intro h₁ F N
  walk_at "mwalk"
  all_goals (try dsimp only)
  all_goals exact h _ _ (Fr.keep (by assumption))
set_option maxHeartbeats 8000000 in
theorem buffer_spec {b : Array UInt8} {t : Tok} (hd : A.depth < 460) (X : (topk.heap_39 w.params).In s.heap) (T : Top VW LO mean mg mb s.heap) 
   (h : ∀ h' tk', Keep s.heap h' → R (.ok (.ret (.bytes b t))) {s with heap := h', toks := tk'}) :
   codeAny (model PP w) A (.call (.ref 90) ⟨[.bytes b t], []⟩) R s := by
  walk_at "menter"
  intro h₁ F N
  walk_at "mwalk"
  all_goals (try dsimp only)
  all_goals exact h _ _ (Fr.keep (by assumption))
set_option maxHeartbeats 8000000 in
theorem ascii_buffer_spec {b : Array UInt8} {t : Tok} (hd : A.depth < 460) (X : (topk.heap_39 w.params).In s.heap) (T : Top VW LO mean mg mb s.heap) 
   (h : ∀ h' tk', Keep s.heap h' → R (.ok (.ret (.bytes b t))) {s with heap := h', toks := tk'}) :
   codeAny (model PP w) A (.call (.ref 83) ⟨[.bytes b t], []⟩) R s := by
  walk_at "menter"
  intro h₁ F N
  walk_at "mwalk"
  all_goals (try dsimp only)
  all_goals exact h _ _ (Fr.keep (by assumption))
local macro_rules | `(tactic| walk_at "getMethod str") => `(tactic| k_extra "u4")
example : True := by
  k_with "u4" => ((with_reducible show wpAny _ _ (getMethod (Value.str _ _) _ _) _ _ _); with_unfolding_all refine getMethod_builtin (T := "str") (typeIs_str _ _ _) PySem.F.plainAttrs_str PySem.F.slot_str_encode PySem.F.type_str_encode (fun _ e => nomatch e) ?_)
  trivial
set_option maxHeartbeats 8000000 in
theorem dec_data_spec {x : Str} {t : Tok} (hd : A.depth < 460) (X : (topk.heap_39 w.params).In s.heap) (T : Top VW LO mean mg mb s.heap) (hx : ∀ c ∈ x.cps.toList, c < 128) (hsz : x.length ≤ sizeLine)
   (h : ∀ h' tk' t', Keep s.heap h' → R (.ok (.ret (.bytes (x.cps.map (·.toUInt8)) t'))) {s with heap := h', toks := tk'}) :
   codeAny (model PP w) A (.call (.ref 63) ⟨[.str x t], []⟩) R s := by
  walk_at "menter"
  intro h₁ F N
  walk_at "mwalk"
  refine Bt.call_encode hx hsz ?_
  walk_at "mwalk"
  all_goals (try dsimp only)
  all_goals exact h _ _ _ (Fr.keep (by assumption))
end
end Mine
end

section
example : True := by w_top off; trivial
open PySem PySem.W PySem.Calls PyProof.Rows
namespace Mine
example : (topk.heap_39, PySem.Challenge.rw_kq0049_01) = (topk.heap_39, PySem.Challenge.rw_kq0049_01) := by k_fill; rfl
set_option pp.deepTerms false
set_option pp.deepTerms.threshold 8
set_option maxRecDepth 100000
section
variable {w : World} {A : Around} {s : Shared} {mean : ExcName → Option Value} {mg mb : Str → Option Value} {R : Result → Shared → Prop}
local macro_rules | `(tactic| walk_at "call ref") => `(tactic| k_extra "u5")
local macro_rules | `(tactic| walk_at "call ref") => `(tactic| k_extra "u6")
local macro_rules | `(tactic| walk_at "eval Name") => `(tactic| k_extra "u7")
local macro_rules | `(tactic| walk_at "subscriptTail") => `(tactic| k_extra "u8")
local macro_rules | `(tactic| walk_at "subscriptTail") => `(tactic| k_extra "u9")
local macro_rules | `(tactic| walk_at "subscriptTail") => `(tactic| k_extra "u10")
local macro_rules | `(tactic| walk_at "call builtin:list.append") => `(tactic| k_extra "u11")
example : True := by
  k_with "u5" => ((with_reducible show wpAny _ _ (call (Value.ref 90) [Value.bytes _ _]) _ _ _); refine wpAny_call (buffer_spec (by walk_at "mdeep") (by k_in) (Top.keeps (by assumption) (Fr.keep (by assumption))) ?_); intro _ _ _; walk_at "mafter")
  k_with "u6" => ((with_reducible show wpAny _ _ (call (Value.ref 97) [Value.bool false]) _ _ _); refine wpAny_call (truth_spec (by walk_at "mdeep") (by k_in) (Top.keeps (by assumption) (Fr.keep (by assumption))) ?_); intro _ _ _; walk_at "mafter")
  k_with "u7" => (k_dflt (refine' ld ?k1 ?k2 ?_; (case k1 => k_asm); (case k2 => walk_at "mlook"); k_whole))
  k_with "u8" => ((with_reducible show wpAny _ _ (subscriptTail _ _ (Value.bytes _ _) (Value.int (Builtin.bitAnd _ 63) _)) _ _ _); refine KBw.item_K rfl (by decide) (bitAnd_range _ (by decide)).1 (Int.lt_of_le_of_lt (bitAnd_range _ (by decide)).2 (by decide)) ?_ (by with_unfolding_all rfl) (by intro _; with_unfolding_all rfl); intro _ _ _ _)
  k_with "u9" => ((with_reducible show wpAny _ _ (subscriptTail _ _ (Value.bytes _ _) (Value.int (Builtin.bitAnd _ 3 * _) _)) _ _ _); refine KBw.item_K rfl (by decide) (ix3_lt _).1 (ix3_lt _).2 ?_ (by with_unfolding_all rfl) (by intro _; with_unfolding_all rfl); intro _ _ _ _)
  k_with "u10" => ((with_reducible show wpAny _ _ (subscriptTail _ _ (Value.bytes _ _) (Value.int (Builtin.bitAnd _ 15 * _) _)) _ _ _); refine KBw.item_K rfl (by decide) (ix15_lt _).1 (ix15_lt _).2 ?_ (by with_unfolding_all rfl) (by intro _; with_unfolding_all rfl); intro _ _ _ _)
  k_with "u11" => ((with_reducible show wpAny _ _ (call (Value.builtin _) [Value.ref _, _]) _ _ _); k_dflt (refine' append_K ?k1 ?k2 ?k3 ?_ ?z; (case k1 => k_asm); (case k2 => k_asm); (case k3 => exact Upd.head (by assumption)); (case z => ((try simp only [List.size_toArray, Array.size_push]); rw [sizeLine_eq]; omega)); k_whole); intro _ _ _; (try k_sweep))
  trivial
inductive BJ (b : Array UInt8) (l : Addr) (i : Nat) (m : Str → Option Value) (news : List (Addr × Obj)) : Prop where
  | intro (lc lb : Int) (t1 t2 : Tok) (vs : Array Value) (k : Nat) (out : List Int) (h1 : m (Str.ofString "leftchar") = some (.int lc t1)) (h2 : m (Str.ofString "leftbits") = some (.int lb t2)) (h3 : m (Str.ofString "out") = some (.ref l)) (h4 : m (Str.ofString "newline") = some (.bool false)) (h5 : news = [(l, W.listOf vs k)]) (h6 : (lb = 0 ∨ lb = 2 ∨ lb = 4)) (h7 : 0 ≤ lc) (h8 : lc ≤ 65535) (h9 : IntsAre vs.toList out) (h10 : encAll ((KBw.bInts b).take i) = (out, lb, lc)) (h11 : out.length ≤ 2 * i) (h12 : ∀ n ∈ out, 0 ≤ n ∧ n < 256) : BJ b l i m news
set_option maxHeartbeats 8000000 in
theorem b2a_spec {b : Array UInt8} {t : Tok} (hd : A.depth < 450) (hh : A.handled = none) (X : (topk.heap_39 w.params).In s.heap) (T : Top VW LO mean mg mb s.heap) (hb : b.size ≤ 1000)
   (h : ∀ h' tk' t', Keep s.heap h' → R (.ok (.ret (.bytes (PySem.byteArr (enc (KBw.bInts b))) t'))) {s with heap := h', toks := tk'}) :
   codeAny (model PP w) A (.call (.ref 120) ⟨[.bytes b t], [(Str.ofString "newline", .bool false)]⟩) R s := by
  walk_at "menter"
  intro h₁ F N
  walk_at "mwalk"
  (rename Fr _ _ _ _ => F); (rename News _ _ _ _ => N)
  rename_i l _ _ _ _ _
  refine loopBytes (fun i m news => BJ b l i m news) hh F N ⟨0, 0, _, _, #[], 0, [], rfl, rfl, rfl, rfl, rfl, .inl rfl, by omega, by omega, .nil, rfl, by simp, by simp⟩ ?_ ?_
  · clear F N
    rintro i c t m₁ news₁ h tk own I hc ⟨lc, lb, t1, t2, vs, k, out, e1, e2, e3, e4, rfl, hlb, h0, h1, hvs, henc, hol, hor⟩ hnw hown F N
    have N' : News s.heap s.heap.objs.size h ((l, W.listOf vs k) :: own) := newsFlip N
    have hoff : ∀ p ∈ own, p.1 ≠ l := fun p hp e => hnw _ (.head _) (e.symm.trans (hown p hp))
    clear N
    have hlen : vs.size ≤ 2000 := by
      have := (Array.getElem?_eq_some_iff.mp hc).1
      rw [← Array.length_toList, hvs.length]; omega
    have hc0 : (0 : Int) ≤ (c.toNat : Int) := Int.natCast_nonneg _
    have hc1 : (c.toNat : Int) < 256 := by have := c.toNat_lt; omega
    rcases hlb with rfl | rfl | rfl
    · walk_at "mwalk"
      refine' TurnEnd.mk (by assumption) (newsFlip (own := [_]) (by assumption)) (offLed hnw) ⟨(lc * 256 + c.toNat) % 65536, 2, _, _, _, _, out ++ [B ((lc * 256 + c.toNat) % 65536 / 4 % 64)], ?e1, ?e2, ?e3, ?e4, rfl, ?e5, ?e6, ?e7, ?e8, ?e9, ?e10, ?e11⟩
      case e1 => exact Eq.trans (b := some (.int (Builtin.bitAnd (Builtin.bitOr (lc * 2 ^ Int.toNat 8) c.toNat) 65535) _)) (by walk_at "mlook") (by rw [lc_eq h0 hc0 hc1])
      case e2 => walk_at "mlook"
      case e3 => walk_at "mlook"
      case e4 => walk_at "mlook"
      case e5 => omega
      case e6 => omega
      case e7 => omega
      case e8 => exact intsPushEq hvs (ix (q := 2) (by decide) h0 hc0 hc1)
      case e9 => rw [takeSucc hc, encAll_snoc, henc]; rfl
      case e10 => rw [List.length_append]; simp only [List.length_singleton]; omega
      case e11 => exact allB hor
    · walk_at "mwalk"
      refine' TurnEnd.mk (by assumption) (newsFlip (own := [_]) (by assumption)) (offLed hnw) ⟨(lc * 256 + c.toNat) % 65536, 4, _, _, _, _, out ++ [B ((lc * 256 + c.toNat) % 65536 / 16 % 64)], ?e1, ?e2, ?e3, ?e4, rfl, ?e5, ?e6, ?e7, ?e8, ?e9, ?e10, ?e11⟩
      case e1 => exact Eq.trans (b := some (.int (Builtin.bitAnd (Builtin.bitOr (lc * 2 ^ Int.toNat 8) c.toNat) 65535) _)) (by walk_at "mlook") (by rw [lc_eq h0 hc0 hc1])
      case e2 => walk_at "mlook"
      case e3 => walk_at "mlook"
      case e4 => walk_at "mlook"
      case e5 => omega
      case e6 => omega
      case e7 => omega
      case e8 => exact intsPushEq hvs (ix (q := 4) (by decide) h0 hc0 hc1)
      case e9 => rw [takeSucc hc, encAll_snoc, henc]; rfl
      case e10 => rw [List.length_append]; simp only [List.length_singleton]; omega
      case e11 => exact allB hor
    · walk_at "mwalk"
      refine' TurnEnd.mk (by assumption) (newsFlip (own := [_]) (by assumption)) (offLed hnw) ⟨(lc * 256 + c.toNat) % 65536, 0, _, _, _, _, (out ++ [B ((lc * 256 + c.toNat) % 65536 / 64 % 64)]) ++ [B ((lc * 256 + c.toNat) % 65536 % 64)], ?e1, ?e2, ?e3, ?e4, rfl, ?e5, ?e6, ?e7, ?e8, ?e9, ?e10, ?e11⟩
      case e1 => exact Eq.trans (b := some (.int (Builtin.bitAnd (Builtin.bitOr (lc * 2 ^ Int.toNat 8) c.toNat) 65535) _)) (by walk_at "mlook") (by rw [lc_eq h0 hc0 hc1])
      case e2 => walk_at "mlook"
      case e3 => walk_at "mlook"
      case e4 => walk_at "mlook"
      case e5 => omega
      case e6 => omega
      case e7 => omega
      case e8 => exact intsPushEq (intsPushEq hvs (ix (q := 6) (by decide) h0 hc0 hc1)) (ix0 h0 hc0 hc1)
      case e9 => rw [takeSucc hc, encAll_snoc, henc, List.append_assoc]; rfl
      case e10 => simp only [List.length_append, List.length_singleton]; omega
      case e11 => exact allB (allB hor)
  · clear F N
    rintro m₁ news₁ hp tk ⟨lc, lb, t1, t2, vs, k, out, e1, e2, e3, e4, rfl, hlb, h0, h1, hvs, henc, hol, hor⟩ F N
    rw [← KBw.ints_length, List.take_length] at henc
    have hlen : vs.size ≤ 2000 := by rw [← Array.length_toList, hvs.length]; omega
    have hoff : ∀ p ∈ ([] : List (Addr × Obj)), p.1 ≠ l := fun p hp => nomatch hp
    have F2 : Fr s.heap s.heap.objs.size hp m₁ := F
    have N2 : News s.heap s.heap.objs.size hp [(l, W.listOf vs k)] := N
    clear F N
    obtain ⟨p3, q3⟩ := bitAnd_range lc (y := 3) (by decide)
    obtain ⟨p15, q15⟩ := bitAnd_range lc (y := 15) (by decide)
    rcases hlb with rfl | rfl | rfl
    · walk_at "mwalk"
      refine bytesOf (by assumption) hvs hor (by omega) hh (fun h' tk' t' hk => ?_)
      have F' := frExt (by assumption) hk
      have e : enc (KBw.bInts b) = out := by unfold enc; rw [henc]; rfl
      rw [← e]
      walk_at "mwalk"
      exact h _ _ _ F'.keep
    · walk_at "mwalk"
      (rename News _ _ _ _ => N')
      refine bytesOf (out := out ++ [B (lc % 4 * 16)] ++ [61] ++ [61]) N' (intsPushEq (intsPushEq (intsPushEq hvs ix3) rfl) rfl) (all61 (all61 (allB hor))) (by simp only [Array.size_push]; omega) hh (fun h' tk' t' hk => ?_)
      have F' := frExt (by assumption) hk
      have e : enc (KBw.bInts b) = out ++ [B (lc % 4 * 16)] ++ [61] ++ [61] := by unfold enc; rw [henc]; simp [encFin]
      rw [← e]
      walk_at "mwalk"
      exact h _ _ _ F'.keep
    · walk_at "mwalk"
      (rename News _ _ _ _ => N')
      refine bytesOf (out := out ++ [B (lc % 16 * 4)] ++ [61]) N' (intsPushEq (intsPushEq hvs ix15) rfl) (all61 (allB hor)) (by simp only [Array.size_push]; omega) hh (fun h' tk' t' hk => ?_)
      have F' := frExt (by assumption) hk
      have e : enc (KBw.bInts b) = out ++ [B (lc % 16 * 4)] ++ [61] := by unfold enc; rw [henc]; simp [encFin]
      rw [← e]
      walk_at "mwalk"
      exact h _ _ _ F'.keep
end
end Mine
end

section
example : True := by w_top off; trivial
open PySem PySem.W PySem.Calls PyProof.Rows
namespace Mine
example : (topk.heap_39, PySem.Challenge.rw_kq0049_01) = (topk.heap_39, PySem.Challenge.rw_kq0049_01) := by k_fill; rfl
set_option pp.deepTerms false
set_option pp.deepTerms.threshold 6
set_option maxRecDepth 100000
section
variable {w : World} {A : Around} {s : Shared} {mean : ExcName → Option Value} {mg mb : Str → Option Value} {R : Result → Shared → Prop}
local macro_rules | `(tactic| walk_at "call ref") => `(tactic| k_extra "u12")
local macro_rules | `(tactic| walk_at "call ref") => `(tactic| k_extra "u13")
local macro_rules | `(tactic| walk_at "call ref") => `(tactic| k_extra "u14")
local macro_rules | `(tactic| walk_at "eval Name") => `(tactic| k_extra "u15")
local macro_rules | `(tactic| walk_at "call builtin:list.append") => `(tactic| k_extra "u16")
example : True := by
  k_with "u12" => ((with_reducible show wpAny _ _ (call (Value.ref 83) [Value.bytes _ _]) _ _ _); refine wpAny_call (ascii_buffer_spec (by walk_at "mdeep") (by k_in) (Top.keeps (by assumption) (Fr.keep (by assumption))) ?_); intro _ _ _; walk_at "mafter")
  k_with "u13" => ((with_reducible show wpAny _ _ (call (Value.ref 97) [Value.bool false]) _ _ _); refine wpAny_call (truth_spec (by walk_at "mdeep") (by k_in) (Top.keeps (by assumption) (Fr.keep (by assumption))) ?_); intro _ _ _; walk_at "mafter")
  k_with "u14" => ((with_reducible show wpAny _ _ (call (Value.ref 104) [Value.int _ _]) _ _ _); refine wpAny_call (b64_value_spec (by walk_at "mdeep") (by k_in) (Top.keeps (by assumption) (Fr.keep (by assumption))) (by assumption) (by assumption) ?_); intro _ _ _ _ _ _; walk_at "mafter")
  k_with "mlook" => ((repeat (refine (if_neg (by decide)).trans ?_)); first | exact (if_pos rfl) | assumption | exact rfl)
  k_with "u15" => (k_dflt (refine' ld ?k1 ?k2 ?_; (case k1 => k_asm); (case k2 => walk_at "mlook"); k_whole))
  k_with "u16" => ((with_reducible show wpAny _ _ (call (Value.builtin _) [Value.ref _, _]) _ _ _); k_dflt (refine' append_K ?k1 ?k2 ?k3 ?_ ?z; (case k1 => k_asm); (case k2 => k_asm); (case k3 => exact Upd.head (by assumption)); (case z => ((try simp only [List.size_toArray, Array.size_push]); rw [sizeLine_eq]; omega)); k_whole); intro _ _ _; (try k_sweep))
  trivial
inductive AJ (b : Array UInt8) (l : Addr) (i : Nat) (m : Str → Option Value) (news : List (Addr × Obj)) : Prop where
  | intro (out : List Int) (q lc p ii : Int) (t1 t2 t3 t4 : Tok) (vs : Array Value) (k : Nat) (h1 : m (Str.ofString "strict_mode") = some (.bool false)) (h2 : m (Str.ofString "out") = some (.ref l)) (h3 : m (Str.ofString "quad_pos") = some (.int q t1)) (h4 : m (Str.ofString "leftchar") = some (.int lc t2)) (h5 : m (Str.ofString "pads") = some (.int p t3)) (h6 : m (Str.ofString "i") = some (.int ii t4)) (h7 : news = [(l, W.listOf vs k)]) (h8 : IntsAre vs.toList out) (h9 : decAll ((KBw.bInts b).take i) = (out, q, lc, p)) (h10 : out.length ≤ i) (h11 : (∀ n ∈ out, 0 ≤ n ∧ n < 256)) (h12 : ((q = 0 ∧ lc < 64) ∨ (q = 1 ∧ lc < 64) ∨ (q = 2 ∧ lc < 16) ∨ (q = 3 ∧ lc < 4))) (h13 : 0 ≤ lc) (h14 : 0 ≤ p) (h15 : p ≤ i) (h16 : 0 ≤ ii) (h17 : ii ≤ i) : AJ b l i m news
set_option maxHeartbeats 8000000 in
theorem a2b_spec {b : Array UInt8} {t : Tok} (hd : A.depth < 450) (hh : A.handled = none) (X : (topk.heap_39 w.params).In s.heap) (T : Top VW LO mean mg mb s.heap) (hb : b.size ≤ 1000)
   {o : List Int} {q d p : Int} (hdec : decAll (KBw.bInts b) = (o, q, d, p)) (hq : q = 0 ∨ (q = 2 ∧ p = 2) ∨ (q = 3 ∧ p = 1))
   (h : ∀ h' tk' t', Keep s.heap h' → R (.ok (.ret (.bytes (byteArr o) t'))) {s with heap := h', toks := tk'}) :
   codeAny (model PP w) A (.call (.ref 112) ⟨[.bytes b t], [(Str.ofString "strict_mode", .bool false)]⟩) R s := by
  walk_at "menter"
  intro h₁ F N
  walk_at "mwalk"
  (rename Fr _ _ _ _ => F); (rename News _ _ _ _ => N)
  rename_i l _ _ _ _ _ _ _
  refine loopBytes (fun i m news => AJ b l i m news) hh F N
      ⟨[], 0, 0, 0, 0, _, _, _, _, #[], 0, rfl, rfl, rfl, rfl, rfl, rfl, rfl, .nil, rfl, by simp, by simp, .inl ⟨rfl, by omega⟩, by omega, by omega, by omega, by omega, by omega⟩ ?_ ?_
  · clear F N
    rintro i c t m₁ news₁ h tk own I hc ⟨out, q, lc, p, ii, t1, t2, t3, t4, vs, k, e0, e1, e2, e3, e4, e5, rfl, hvs, hde, hol, hor, hq, l0, p0, p1, i0, i1⟩ hnw hown F N
    have N' : News s.heap s.heap.objs.size h ((l, W.listOf vs k) :: own) := newsFlip N
    have F' : Fr s.heap s.heap.objs.size h _ := F
    have hoff : ∀ p ∈ own, p.1 ≠ l := fun p hp e => hnw _ (.head _) (e.symm.trans (hown p hp))
    clear F N
    have hlen : vs.size ≤ 1000 := by
      have := (Array.getElem?_eq_some_iff.mp hc).1
      rw [← Array.length_toList, hvs.length]; omega
    have hisz : i ≤ 1000 := by
      have := (Array.getElem?_eq_some_iff.mp hc).1
      omega
    have hc0 : (0 : Int) ≤ (c.toNat : Int) := Int.natCast_nonneg _
    have hc1 : (c.toNat : Int) < 256 := by have := c.toNat_lt; omega
    rcases hq with ⟨rfl, l1⟩ | ⟨rfl, l1⟩ | ⟨rfl, l1⟩ | ⟨rfl, l1⟩
    · walk_at "mwalk"
      · (try dsimp only)
        refine' TurnEnd.mkc (by assumption) (newsFlip (own := [_]) (by assumption)) (offLed hnw) ⟨out, 0, lc, (p + 1), _, _, _, _, _, _, _, ?e0, ?e1, ?e2, ?e3, ?e4, ?e5, rfl, ?f1, ?f2, ?f3, ?f4, ?f5, ?f6, ?f7, ?f8, ?f9, ?f10⟩
        case e0 => walk_at "mlook"
        case e1 => walk_at "mlook"
        case e2 => walk_at "mlook"
        case e4 => walk_at "mlook"
        case e5 => walk_at "mlook"
        case e3 => walk_at "mlook"
        case f1 => exact hvs
        case f2 => rw [takeSucc hc]; exact dec_pad1 hde (by assumption)
        case f3 => omega
        case f4 => exact hor
        case f5 => omega
        case f6 => omega
        case f7 => omega
        case f8 => omega
        case f9 => omega
        case f10 => omega
      · (try dsimp only)
        refine' TurnEnd.mkc (by assumption) (newsFlip (own := [_]) (by assumption)) (offLed hnw) ⟨out, 0, lc, p, _, _, _, _, _, _, _, ?e0, ?e1, ?e2, ?e3, ?e4, ?e5, rfl, ?f1, ?f2, ?f3, ?f4, ?f5, ?f6, ?f7, ?f8, ?f9, ?f10⟩
        case e0 => walk_at "mlook"
        case e1 => walk_at "mlook"
        case e2 => walk_at "mlook"
        case e4 => walk_at "mlook"
        case e5 => walk_at "mlook"
        case e3 => walk_at "mlook"
        case f1 => exact hvs
        case f2 => rw [takeSucc hc]; exact dec_skip hde (by assumption) (by omega)
        case f3 => omega
        case f4 => exact hor
        case f5 => omega
        case f6 => omega
        case f7 => omega
        case f8 => omega
        case f9 => omega
        case f10 => omega
      · (try dsimp only)
        refine' TurnEnd.mk (by assumption) (newsFlip (own := [_]) (by assumption)) (offLed hnw) ⟨out, 1, (b64v c.toNat), 0, _, _, _, _, _, _, _, ?e0, ?e1, ?e2, ?e3, ?e4, ?e5, rfl, ?f1, ?f2, ?f3, ?f4, ?f5, ?f6, ?f7, ?f8, ?f9, ?f10⟩
        case e0 => walk_at "mlook"
        case e1 => walk_at "mlook"
        case e2 => walk_at "mlook"
        case e4 => walk_at "mlook"
        case e5 => walk_at "mlook"
        case e3 => walk_at "mlook"
        case f1 => exact hvs
        case f2 => rw [takeSucc hc]; exact dec_val hde (by assumption) (by omega)
        case f3 => omega
        case f4 => exact hor
        case f5 => omega
        case f6 => omega
        case f7 => omega
        case f8 => omega
        case f9 => omega
        case f10 => omega
      · (try dsimp only)
        refine' TurnEnd.mk (by assumption) (newsFlip (own := [_]) (by assumption)) (offLed hnw) ⟨out, 1, (b64v c.toNat), 0, _, _, _, _, _, _, _, ?e0, ?e1, ?e2, ?e3, ?e4, ?e5, rfl, ?f1, ?f2, ?f3, ?f4, ?f5, ?f6, ?f7, ?f8, ?f9, ?f10⟩
        case e0 => walk_at "mlook"
        case e1 => walk_at "mlook"
        case e2 => walk_at "mlook"
        case e4 => walk_at "mlook"
        case e5 => walk_at "mlook"
        case e3 => walk_at "mlook"
        case f1 => exact hvs
        case f2 => rw [takeSucc hc]; exact dec_val hde (by assumption) (by omega)
        case f3 => omega
        case f4 => exact hor
        case f5 => omega
        case f6 => omega
        case f7 => omega
        case f8 => omega
        case f9 => omega
        case f10 => omega
    · walk_at "mwalk"
      · (try dsimp only)
        refine' TurnEnd.mkc (by assumption) (newsFlip (own := [_]) (by assumption)) (offLed hnw) ⟨out, 1, lc, (p + 1), _, _, _, _, _, _, _, ?e0, ?e1, ?e2, ?e3, ?e4, ?e5, rfl, ?f1, ?f2, ?f3, ?f4, ?f5, ?f6, ?f7, ?f8, ?f9, ?f10⟩
        case e0 => walk_at "mlook"
        case e1 => walk_at "mlook"
        case e2 => walk_at "mlook"
        case e4 => walk_at "mlook"
        case e5 => walk_at "mlook"
        case e3 => walk_at "mlook"
        case f1 => exact hvs
        case f2 => rw [takeSucc hc]; exact dec_pad1 hde (by assumption)
        case f3 => omega
        case f4 => exact hor
        case f5 => omega
        case f6 => omega
        case f7 => omega
        case f8 => omega
        case f9 => omega
        case f10 => omega
      · (try dsimp only)
        refine' TurnEnd.mkc (by assumption) (newsFlip (own := [_]) (by assumption)) (offLed hnw) ⟨out, 1, lc, p, _, _, _, _, _, _, _, ?e0, ?e1, ?e2, ?e3, ?e4, ?e5, rfl, ?f1, ?f2, ?f3, ?f4, ?f5, ?f6, ?f7, ?f8, ?f9, ?f10⟩
        case e0 => walk_at "mlook"
        case e1 => walk_at "mlook"
        case e2 => walk_at "mlook"
        case e4 => walk_at "mlook"
        case e5 => walk_at "mlook"
        case e3 => walk_at "mlook"
        case f1 => exact hvs
        case f2 => rw [takeSucc hc]; exact dec_skip hde (by assumption) (by omega)
        case f3 => omega
        case f4 => exact hor
        case f5 => omega
        case f6 => omega
        case f7 => omega
        case f8 => omega
        case f9 => omega
        case f10 => omega
      · (try dsimp only)
        refine' TurnEnd.mk (by assumption) (newsFlip (own := [_]) (by assumption)) (offLed hnw) ⟨(out ++ [lc * 4 + b64v c.toNat / 16]), 2, (b64v c.toNat % 16), 0, _, _, _, _, _, _, _, ?e0, ?e1, ?e2, ?e3, ?e4, ?e5, rfl, ?f1, ?f2, ?f3, ?f4, ?f5, ?f6, ?f7, ?f8, ?f9, ?f10⟩
        case e0 => walk_at "mlook"
        case e1 => walk_at "mlook"
        case e2 => walk_at "mlook"
        case e4 => walk_at "mlook"
        case e5 => walk_at "mlook"
        case e3 => exact Eq.trans (b := some (.int (Builtin.bitAnd (b64v c.toNat) 15) _)) (by walk_at "mlook") (by rw [bitAnd_m4])
        case f1 => exact intsPushEq hvs (or1 l0 (by assumption) (by omega))
        case f2 => rw [takeSucc hc]; exact dec_val hde (by assumption) (by omega)
        case f3 => rw [List.length_append, List.length_singleton]; omega
        case f4 => exact allOne hor (by omega) (by omega)
        case f5 => omega
        case f6 => omega
        case f7 => omega
        case f8 => omega
        case f9 => omega
        case f10 => omega
      · (try dsimp only)
        refine' TurnEnd.mk (by assumption) (newsFlip (own := [_]) (by assumption)) (offLed hnw) ⟨(out ++ [lc * 4 + b64v c.toNat / 16]), 2, (b64v c.toNat % 16), 0, _, _, _, _, _, _, _, ?e0, ?e1, ?e2, ?e3, ?e4, ?e5, rfl, ?f1, ?f2, ?f3, ?f4, ?f5, ?f6, ?f7, ?f8, ?f9, ?f10⟩
        case e0 => walk_at "mlook"
        case e1 => walk_at "mlook"
        case e2 => walk_at "mlook"
        case e4 => walk_at "mlook"
        case e5 => walk_at "mlook"
        case e3 => exact Eq.trans (b := some (.int (Builtin.bitAnd (b64v c.toNat) 15) _)) (by walk_at "mlook") (by rw [bitAnd_m4])
        case f1 => exact intsPushEq hvs (or1 l0 (by assumption) (by omega))
        case f2 => rw [takeSucc hc]; exact dec_val hde (by assumption) (by omega)
        case f3 => rw [List.length_append, List.length_singleton]; omega
        case f4 => exact allOne hor (by omega) (by omega)
        case f5 => omega
        case f6 => omega
        case f7 => omega
        case f8 => omega
        case f9 => omega
        case f10 => omega
    · walk_at "mwalk"
      · (try dsimp only)
        refine' TurnEnd.mkc (by assumption) (newsFlip (own := [_]) (by assumption)) (offLed hnw) ⟨out, 2, lc, (p + 1), _, _, _, _, _, _, _, ?e0, ?e1, ?e2, ?e3, ?e4, ?e5, rfl, ?f1, ?f2, ?f3, ?f4, ?f5, ?f6, ?f7, ?f8, ?f9, ?f10⟩
        case e0 => walk_at "mlook"
        case e1 => walk_at "mlook"
        case e2 => walk_at "mlook"
        case e4 => walk_at "mlook"
        case e5 => walk_at "mlook"
        case e3 => walk_at "mlook"
        case f1 => exact hvs
        case f2 => rw [takeSucc hc]; exact dec_pad1 hde (by assumption)
        case f3 => omega
        case f4 => exact hor
        case f5 => omega
        case f6 => omega
        case f7 => omega
        case f8 => omega
        case f9 => omega
        case f10 => omega
      · (try dsimp only)
        refine' TurnEnd.mkc (by assumption) (newsFlip (own := [_]) (by assumption)) (offLed hnw) ⟨out, 2, lc, (p + 1), _, _, _, _, _, _, _, ?e0, ?e1, ?e2, ?e3, ?e4, ?e5, rfl, ?f1, ?f2, ?f3, ?f4, ?f5, ?f6, ?f7, ?f8, ?f9, ?f10⟩
        case e0 => walk_at "mlook"
        case e1 => walk_at "mlook"
        case e2 => walk_at "mlook"
        case e4 => walk_at "mlook"
        case e5 => walk_at "mlook"
        case e3 => walk_at "mlook"
        case f1 => exact hvs
        case f2 => rw [takeSucc hc]; exact dec_pad1 hde (by assumption)
        case f3 => omega
        case f4 => exact hor
        case f5 => omega
        case f6 => omega
        case f7 => omega
        case f8 => omega
        case f9 => omega
        case f10 => omega
      · (try dsimp only)
        refine' TurnEnd.mkc (by assumption) (newsFlip (own := [_]) (by assumption)) (offLed hnw) ⟨out, 2, lc, p, _, _, _, _, _, _, _, ?e0, ?e1, ?e2, ?e3, ?e4, ?e5, rfl, ?f1, ?f2, ?f3, ?f4, ?f5, ?f6, ?f7, ?f8, ?f9, ?f10⟩
        case e0 => walk_at "mlook"
        case e1 => walk_at "mlook"
        case e2 => walk_at "mlook"
        case e4 => walk_at "mlook"
        case e5 => walk_at "mlook"
        case e3 => walk_at "mlook"
        case f1 => exact hvs
        case f2 => rw [takeSucc hc]; exact dec_skip hde (by assumption) (by omega)
        case f3 => omega
        case f4 => exact hor
        case f5 => omega
        case f6 => omega
        case f7 => omega
        case f8 => omega
        case f9 => omega
        case f10 => omega
      · (try dsimp only)
        refine' TurnEnd.mk (by assumption) (newsFlip (own := [_]) (by assumption)) (offLed hnw) ⟨(out ++ [lc * 16 + b64v c.toNat / 4]), 3, (b64v c.toNat % 4), 0, _, _, _, _, _, _, _, ?e0, ?e1, ?e2, ?e3, ?e4, ?e5, rfl, ?f1, ?f2, ?f3, ?f4, ?f5, ?f6, ?f7, ?f8, ?f9, ?f10⟩
        case e0 => walk_at "mlook"
        case e1 => walk_at "mlook"
        case e2 => walk_at "mlook"
        case e4 => walk_at "mlook"
        case e5 => walk_at "mlook"
        case e3 => exact Eq.trans (b := some (.int (Builtin.bitAnd (b64v c.toNat) 3) _)) (by walk_at "mlook") (by rw [bitAnd_m2])
        case f1 => exact intsPushEq hvs (or2 l0 (by assumption) (by omega))
        case f2 => rw [takeSucc hc]; exact dec_val hde (by assumption) (by omega)
        case f3 => rw [List.length_append, List.length_singleton]; omega
        case f4 => exact allOne hor (by omega) (by omega)
        case f5 => omega
        case f6 => omega
        case f7 => omega
        case f8 => omega
        case f9 => omega
        case f10 => omega
      · (try dsimp only)
        refine' TurnEnd.mk (by assumption) (newsFlip (own := [_]) (by assumption)) (offLed hnw) ⟨(out ++ [lc * 16 + b64v c.toNat / 4]), 3, (b64v c.toNat % 4), 0, _, _, _, _, _, _, _, ?e0, ?e1, ?e2, ?e3, ?e4, ?e5, rfl, ?f1, ?f2, ?f3, ?f4, ?f5, ?f6, ?f7, ?f8, ?f9, ?f10⟩
        case e0 => walk_at "mlook"
        case e1 => walk_at "mlook"
        case e2 => walk_at "mlook"
        case e4 => walk_at "mlook"
        case e5 => walk_at "mlook"
        case e3 => exact Eq.trans (b := some (.int (Builtin.bitAnd (b64v c.toNat) 3) _)) (by walk_at "mlook") (by rw [bitAnd_m2])
        case f1 => exact intsPushEq hvs (or2 l0 (by assumption) (by omega))
        case f2 => rw [takeSucc hc]; exact dec_val hde (by assumption) (by omega)
        case f3 => rw [List.length_append, List.length_singleton]; omega
        case f4 => exact allOne hor (by omega) (by omega)
        case f5 => omega
        case f6 => omega
        case f7 => omega
        case f8 => omega
        case f9 => omega
        case f10 => omega
    · walk_at "mwalk"
      · (try dsimp only)
        refine' TurnEnd.mkc (by assumption) (newsFlip (own := [_]) (by assumption)) (offLed hnw) ⟨out, 3, lc, (p + 1), _, _, _, _, _, _, _, ?e0, ?e1, ?e2, ?e3, ?e4, ?e5, rfl, ?f1, ?f2, ?f3, ?f4, ?f5, ?f6, ?f7, ?f8, ?f9, ?f10⟩
        case e0 => walk_at "mlook"
        case e1 => walk_at "mlook"
        case e2 => walk_at "mlook"
        case e4 => walk_at "mlook"
        case e5 => walk_at "mlook"
        case e3 => walk_at "mlook"
        case f1 => exact hvs
        case f2 => rw [takeSucc hc]; exact dec_pad1 hde (by assumption)
        case f3 => omega
        case f4 => exact hor
        case f5 => omega
        case f6 => omega
        case f7 => omega
        case f8 => omega
        case f9 => omega
        case f10 => omega
      · (try dsimp only)
        refine' TurnEnd.mkc (by assumption) (newsFlip (own := [_]) (by assumption)) (offLed hnw) ⟨out, 3, lc, (p + 1), _, _, _, _, _, _, _, ?e0, ?e1, ?e2, ?e3, ?e4, ?e5, rfl, ?f1, ?f2, ?f3, ?f4, ?f5, ?f6, ?f7, ?f8, ?f9, ?f10⟩
        case e0 => walk_at "mlook"
        case e1 => walk_at "mlook"
        case e2 => walk_at "mlook"
        case e4 => walk_at "mlook"
        case e5 => walk_at "mlook"
        case e3 => walk_at "mlook"
        case f1 => exact hvs
        case f2 => rw [takeSucc hc]; exact dec_pad1 hde (by assumption)
        case f3 => omega
        case f4 => exact hor
        case f5 => omega
        case f6 => omega
        case f7 => omega
        case f8 => omega
        case f9 => omega
        case f10 => omega
      · (try dsimp only)
        refine' TurnEnd.mkc (by assumption) (newsFlip (own := [_]) (by assumption)) (offLed hnw) ⟨out, 3, lc, p, _, _, _, _, _, _, _, ?e0, ?e1, ?e2, ?e3, ?e4, ?e5, rfl, ?f1, ?f2, ?f3, ?f4, ?f5, ?f6, ?f7, ?f8, ?f9, ?f10⟩
        case e0 => walk_at "mlook"
        case e1 => walk_at "mlook"
        case e2 => walk_at "mlook"
        case e4 => walk_at "mlook"
        case e5 => walk_at "mlook"
        case e3 => walk_at "mlook"
        case f1 => exact hvs
        case f2 => rw [takeSucc hc]; exact dec_skip hde (by assumption) (by omega)
        case f3 => omega
        case f4 => exact hor
        case f5 => omega
        case f6 => omega
        case f7 => omega
        case f8 => omega
        case f9 => omega
        case f10 => omega
      · (try dsimp only)
        refine' TurnEnd.mk (by assumption) (newsFlip (own := [_]) (by assumption)) (offLed hnw) ⟨(out ++ [lc * 64 + b64v c.toNat]), 0, 0, 0, _, _, _, _, _, _, _, ?e0, ?e1, ?e2, ?e3, ?e4, ?e5, rfl, ?f1, ?f2, ?f3, ?f4, ?f5, ?f6, ?f7, ?f8, ?f9, ?f10⟩
        case e0 => walk_at "mlook"
        case e1 => walk_at "mlook"
        case e2 => walk_at "mlook"
        case e4 => walk_at "mlook"
        case e5 => walk_at "mlook"
        case e3 => walk_at "mlook"
        case f1 => exact intsPushEq hvs (or3 l0 (by assumption) (by omega))
        case f2 => rw [takeSucc hc]; exact dec_val hde (by assumption) (by omega)
        case f3 => rw [List.length_append, List.length_singleton]; omega
        case f4 => exact allOne hor (by omega) (by omega)
        case f5 => omega
        case f6 => omega
        case f7 => omega
        case f8 => omega
        case f9 => omega
        case f10 => omega
      · (try dsimp only)
        refine' TurnEnd.mk (by assumption) (newsFlip (own := [_]) (by assumption)) (offLed hnw) ⟨(out ++ [lc * 64 + b64v c.toNat]), 0, 0, 0, _, _, _, _, _, _, _, ?e0, ?e1, ?e2, ?e3, ?e4, ?e5, rfl, ?f1, ?f2, ?f3, ?f4, ?f5, ?f6, ?f7, ?f8, ?f9, ?f10⟩
        case e0 => walk_at "mlook"
        case e1 => walk_at "mlook"
        case e2 => walk_at "mlook"
        case e4 => walk_at "mlook"
        case e5 => walk_at "mlook"
        case e3 => walk_at "mlook"
        case f1 => exact intsPushEq hvs (or3 l0 (by assumption) (by omega))
        case f2 => rw [takeSucc hc]; exact dec_val hde (by assumption) (by omega)
        case f3 => rw [List.length_append, List.length_singleton]; omega
        case f4 => exact allOne hor (by omega) (by omega)
        case f5 => omega
        case f6 => omega
        case f7 => omega
        case f8 => omega
        case f9 => omega
        case f10 => omega
  · clear F N
    rintro m₁ news₁ hp tk ⟨out, q', lc, p', ii, t1, t2, t3, t4, vs, k, e0, e1, e2, e3, e4, e5, rfl, hvs, hde, hol, hor, _, l0, p0, p1, i0, i1⟩ F N
    rw [← KBw.ints_length, List.take_length, hdec] at hde
    cases hde
    have F2 : Fr s.heap s.heap.objs.size hp m₁ := F
    have N2 : News s.heap s.heap.objs.size hp [(l, W.listOf vs k)] := N
    clear F N
    have hlen : vs.size ≤ 1000 := by rw [← Array.length_toList, hvs.length]; omega
    rcases hq with rfl | ⟨rfl, rfl⟩ | ⟨rfl, rfl⟩
    all_goals (walk_at "mwalk")
    all_goals (refine bytesOf N2 hvs hor (by omega) hh (fun h' tk' t' hk => ?_))
    all_goals (have F' := frExt F2 hk)
    all_goals (walk_at "mwalk")
    all_goals exact h _ _ _ F'.keep
end
end Mine
end

section
example : True := by w_top off; trivial
open PySem PySem.W PySem.Calls PyProof.Rows
namespace Mine
example : (topk.heap_39, PySem.Challenge.rw_kq0049_01) = (topk.heap_39, PySem.Challenge.rw_kq0049_01) := by k_fill; rfl
set_option pp.deepTerms false
set_option pp.deepTerms.threshold 6
set_option maxRecDepth 100000
section
variable {w : World} {A : Around} {s : Shared} {mean : ExcName → Option Value} {mg mb : Str → Option Value} {R : Result → Shared → Prop}
local macro_rules | `(tactic| walk_at "call ref") => `(tactic| k_extra "u17")
local macro_rules | `(tactic| walk_at "call ref") => `(tactic| k_extra "u18")
example : True := by
  k_with "u17" => ((with_reducible show wpAny _ _ (call (Value.ref 120) _ _) _ _ _); refine wpAny_call (b2a_spec (by walk_at "mdeep") (by assumption) (by k_in) (Top.keeps (by assumption) (Fr.keep (by assumption))) (by omega) ?_); intro _ _ _ _; walk_at "mafter")
  k_with "u18" => ((with_reducible show wpAny _ _ (call (Value.ref 63) _ _) _ _ _); refine wpAny_call (dec_data_spec (by walk_at "mdeep") (by k_in) (Top.keeps (by assumption) (Fr.keep (by assumption))) (by assumption) (by assumption) ?_); intro _ _ _ _; walk_at "mafter")
  trivial
set_option maxHeartbeats 8000000 in
theorem b64encode_spec {b : Array UInt8} {t : Tok} (hd : A.depth < 440) (hh : A.handled = none) (X : (topk.heap_39 w.params).In s.heap) (T : Top VW LO mean mg mb s.heap) (hb : b.size ≤ 1000)
   (h : ∀ h' tk' t', Keep s.heap h' → R (.ok (.ret (.bytes (byteArr (enc (KBw.bInts b))) t'))) {s with heap := h', toks := tk'}) :
   codeAny (model PP w) A (.call (.ref 128) ⟨[.bytes b t], []⟩) R s := by
  walk_at "menter"
  intro h₁ F N
  walk_at "mwalk"
  exact h _ _ _ (Fr.keep (by assumption))
set_option maxHeartbeats 8000000 in
theorem b64decode_spec {x : Str} {t : Tok} (hd : A.depth < 440) (hh : A.handled = none) (X : (topk.heap_39 w.params).In s.heap) (T : Top VW LO mean mg mb s.heap) (hx : ∀ c ∈ x.cps.toList, c < 128) (hsz : x.length ≤ 1000)
   {o : List Int} {q d p : Int} (hdec : decAll (KBw.bInts (x.cps.map (·.toUInt8))) = (o, q, d, p)) (hq : q = 0 ∨ (q = 2 ∧ p = 2) ∨ (q = 3 ∧ p = 1))
   (h : ∀ h' tk' t', Keep s.heap h' → R (.ok (.ret (.bytes (byteArr o) t'))) {s with heap := h', toks := tk'}) :
   codeAny (model PP w) A (.call (.ref 136) ⟨[.str x t], []⟩) R s := by
  have hsz2 : x.length ≤ sizeLine := by rw [sizeLine_eq]; omega
  walk_at "menter"
  intro h₁ F N
  walk_at "mwalk"
  refine wpAny_call (a2b_spec (by walk_at "mdeep") (by assumption) (by k_in) (Top.keeps (by assumption) (Fr.keep (by assumption))) (by rw [Array.size_map]; exact hsz) hdec hq ?_)
  intro h' tk' t' k'
  walk_at "mafter"
  walk_at "mwalk"
  exact h _ _ _ (Fr.keep (by assumption))
end
end Mine
end

section
example : True := by w_top off; trivial
local macro_rules | `(tactic| walk_at "none0") => `(tactic| fail)
open PySem PySem.W PySem.Calls PyProof.Rows
namespace Mine
example : (topk.heap_39, PySem.Challenge.rw_kq0049_01) = (topk.heap_39, PySem.Challenge.rw_kq0049_01) := by k_fill; rfl
set_option pp.deepTerms false
set_option pp.deepTerms.threshold 10
set_option maxRecDepth 100000
section
variable {w : World} {A : Around} {s : Shared} {mean : ExcName → Option Value} {mg mb : Str → Option Value} {R : Result → Shared → Prop}
local macro_rules | `(tactic| walk_at "call ref") => `(tactic| k_extra "u19")
local macro_rules | `(tactic| walk_at "getMethod bytes") => `(tactic| k_extra "u20")
example : True := by
  k_with "u19" => ((with_reducible show wpAny _ _ (call (Value.ref 128) _ _) _ _ _); refine wpAny_call (b64encode_spec (by walk_at "mdeep") (by assumption) (by k_in) (Top.keeps (by assumption) (Fr.keep (by assumption))) (by omega) ?_); intro _ _ _ _; walk_at "mafter")
  k_with "u20" => ((with_reducible show wpAny _ _ (getMethod (Value.bytes _ _) _ _) _ _ _); refine KBd.method ?_)
  trivial
set_option maxHeartbeats 8000000 in
theorem law_row_spec {x : Str} {b : Array UInt8} {t u : Tok} (hd : A.depth < 430) (hh : A.handled = none) (X : (topk.heap_39 w.params).In s.heap) (T : Top VW LO mean mg mb s.heap) (hx : x.length ≤ 1000) (hb : b.size ≤ 1000)
   (h : ∀ h' tk' t', Keep s.heap h' → R (.ok (.ret (.str ⟨(rowT x.cps.toList (KBw.bInts b)).toArray⟩ t'))) {s with heap := h', toks := tk'}) :
   codeAny (model PP w) A (.call (.ref 155) ⟨[.str x t, .bytes b u], []⟩) R s := by
  walk_at "menter"
  intro h₁ F N
  walk_at "mwalk"
  have hl := enc_len (KBw.bInts b)
  rw [KBw.ints_length] at hl
  have hz : (byteArr (enc (KBw.bInts b))).size ≤ 5000 := by rw [byteArr_size]; omega
  refine Bt.call_decode (enc_ascii _) (by rw [sizeLine_eq]; omega) (fun t' k => ?_)
  have hz2 : (⟨(byteArr (enc (KBw.bInts b))).map (·.toNat)⟩ : Str).length ≤ 5000 := by
    show ((byteArr (enc (KBw.bInts b))).map (·.toNat)).size ≤ 5000
    rw [Array.size_map]; exact hz
  walk_at "mwalk"
  have e : (x ++ Str.ofString ":" ++ ⟨(byteArr (enc (KBw.bInts b))).map (·.toNat)⟩ : Str) = ⟨(rowT x.cps.toList (KBw.bInts b)).toArray⟩ := by
    refine congrArg Str.mk ?_
    apply Array.ext'
    show ((x.cps ++ (Str.ofString ":").cps) ++ (byteArr (enc (KBw.bInts b))).map (·.toNat)).toList = _
    rw [Array.toList_append, Array.toList_append, encT_bytes]
    have : (Str.ofString ":").cps = #[58] := by decide +kernel
    rw [this]
    simp [rowT]
  rw [e]
  exact h _ _ _ (Fr.keep (by assumption))
end
end Mine
end

section
example : True := by w_top off; trivial
open PySem PySem.W PySem.Calls PyProof.Rows
namespace Mine
example : (topk.heap_39, PySem.Challenge.rw_kq0049_01) = (topk.heap_39, PySem.Challenge.rw_kq0049_01) := by k_fill; rfl
set_option pp.deepTerms false
set_option pp.deepTerms.threshold 4
set_option maxRecDepth 100000
section
variable {w : World} {A : Around} {s : Shared} {mean : ExcName → Option Value} {mg mb : Str → Option Value} {R : Result → Shared → Prop}
local macro_rules | `(tactic| walk_at "assign Tuple") => `(tactic| k_extra "u21")
example : True := by
  k_with "u21" => ((with_reducible show wpAny _ _ (assign (Expr.Tuple _ _ _) _ (Value.ref _)) _ _ _); k_dflt (refine' unpackN_ ?k1 ?k2 ?k3 ?k4 ?k5 ?k6 ?_; (case k1 => k_asm); (case k2 => k_asm); (case k3 => exact News.isTup (by k_asm) (by k_mem)); (case k4 => first | assumption | exact rfl); (case k5 => first | assumption | exact rfl); (case k6 => first | assumption | exact rfl); k_whole); intro _ _ _; (try k_sweep))
  trivial
/-- what a row read is -/
def RowObj (x : Str) (b : Array UInt8) (ta tb : Tok) : Obj := { cls := Value.type "tuple", data := Data.seq #[.str x ta, .bytes b tb] }
set_option maxHeartbeats 8000000 in
theorem law_read_spec {x : List Nat} {o : List Int} {t : Tok} (hd : A.depth < 430) (hh : A.handled = none) (X : (topk.heap_39 w.params).In s.heap) (T : Top VW LO mean mg mb s.heap) (hx : 58 ∉ x) (ho : ∀ c ∈ o, 0 ≤ c ∧ c < 256) (hl1 : x.length ≤ 100) (hl2 : o.length ≤ 100)
   (h : ∀ h' tk' a ta tb, Keep s.heap h' → s.heap.get? a = none → h'.get? a = some (RowObj (Tx.mkS x) (byteArr o) ta tb) → R (.ok (.ret (.ref a))) {s with heap := h', toks := tk'}) :
   codeAny (model PP w) A (.call (.ref 169) ⟨[.str (Tx.mkS (escT (rowT x o))) t], []⟩) R s := by
  have hel := enc_len o
  have hel2 : (encT o).length ≤ 1000 := by unfold encT; rw [List.length_map]; omega
  have hr : (Tx.mkS (escT (rowT x o))).length ≤ 2000 := by
    rw [Tx.mkS_len]
    unfold escT rowT
    split <;> simp only [List.length_cons, List.length_append] <;> omega
  have hne := escT_ne x o
  have hcas := read_cases (x := x) (o := o) hx
  have hasc : ∀ c ∈ (Tx.mkS (encT o)).cps.toList, c < 128 := by
    intro c hc
    have := encT_mem o c (by simpa using hc)
    omega
  have hsz : (Tx.mkS (encT o)).length ≤ 1000 := by rw [Tx.mkS_len]; exact hel2
  obtain ⟨q, d, p, hdec, hq⟩ := dec_enc ho
  rw [← encT_b64] at hdec
  generalize Tx.mkS (escT (rowT x o)) = r at *
  walk_at "menter"
  intro h₁ F N
  walk_at "mwalk"
  · rcases hcas with ⟨_, hp⟩ | ⟨hc, _⟩
    · rw [hp] at *
      refine wpAny_call (b64decode_spec (by walk_at "mdeep") (by assumption) (by k_in) (Top.keeps (by assumption) (Fr.keep (by assumption))) hasc hsz hdec hq ?_)
      intro h' tk' t' k'
      walk_at "mafter"
      walk_at "mwalk"
      exact h _ _ _ _ _ (Fr.keep (by assumption)) (News.fresh (by assumption) (.head _)) (News.get (by assumption) (.head _))
    · have hc2 : (Txt.slice r none (some 1) == Str.ofString ".") = true := by assumption
      exact absurd (hc2.symm.trans hc) (by decide)
  · rcases hcas with ⟨hc, _⟩ | ⟨_, hp⟩
    · have hc2 : (Txt.slice r none (some 1) == Str.ofString ".") = false := by assumption
      exact absurd (hc.symm.trans hc2) (by decide)
    · rw [hp] at *
      refine wpAny_call (b64decode_spec (by walk_at "mdeep") (by assumption) (by k_in) (Top.keeps (by assumption) (Fr.keep (by assumption))) hasc hsz hdec hq ?_)
      intro h' tk' t' k'
      walk_at "mafter"
      walk_at "mwalk"
      exact h _ _ _ _ _ (Fr.keep (by assumption)) (News.fresh (by assumption) (.head _)) (News.get (by assumption) (.head _))
end
end Mine
end

section
open PySem PySem.W PySem.Calls PyProof.Rows PySem.SeqAt
namespace Mine
theorem Heap.IsList.keeps' {h h' : Heap} {a items} (x : h.IsList a items) (hk : ∀ b o, h.get? b = some o → h'.get? b = some o) : h'.IsList a items := let ⟨o, ho, r⟩ := x; ⟨o, hk a o ho, r⟩
abbrev Att := List Nat × List Int
/-- an attachment in the heap -/
def AttAt (h : Heap) (v : Value) (x : Att) : Prop := ∃ t ta tb, v = .ref t ∧ IsTup h t #[.str (Tx.mkS x.1) ta, .bytes (byteArr x.2) tb]
/-- a mail in the heap -/
def MailAt (h : Heap) (l : Addr) (items : Array Value) (atts : List Att) : Prop := h.IsList l items ∧ items.size = atts.length ∧ ∀ (i : Nat) (hi : i < atts.length), ∃ v, items[i]? = some v ∧ AttAt h v atts[i]
def InR (l : List Int) : Prop := ∀ n ∈ l, 0 ≤ n ∧ n < 256
theorem eqAt_bytes {A : Around} {s : Shared} (b c : Array UInt8) (t u : Tok) : EqAt A s (.bytes b t) (.bytes c u) (b.toList == c.toList) := fun prog w E Q h => by
  unfold eqBool
  show wpAny _ _ (if (Value.bytes b t == Value.bytes c u) = true then _ else _) Q E s
  by_cases hab : (Value.bytes b t == Value.bytes c u) = true
  · rw [if_pos hab]
    have e : b = c := by have := eq_of_beq hab; injection this
    subst e
    exact wpAny_bind (wpAny_rule (wpAny_pure (by simpa using h)))
  · rw [if_neg hab]
    exact wpAny_bind (eq_bytes (wpAny_truthy_bool h))
theorem mkS_inj {a b : List Nat} : (Tx.mkS a == Tx.mkS b) = decide (a = b) := by
  by_cases h : a = b
  · subst h; simp
  · rw [decide_eq_false h, beq_eq_false_iff_ne]
    intro e
    exact h (by simpa using congrArg (fun z : PySem.Str => z.cps.toList) e)
theorem byteArr_inj {a b : List Int} (ha : InR a) (hb : InR b) : ((byteArr a).toList == (byteArr b).toList) = decide (a = b) := by
  by_cases h : a = b
  · subst h; simp
  · rw [decide_eq_false h, beq_eq_false_iff_ne]
    intro e
    apply h
    have e2 := congrArg KBw.bInts (Array.toList_inj.mp e)
    rwa [KBa.ints_make ha, KBa.ints_make hb] at e2
theorem eqAt_att {A : Around} {s : Shared} {v v' : Value} {x y : Att} (h : AttAt s.heap v x) (h' : AttAt s.heap v' y) (hx : InR x.2) (hy : InR y.2) (hu : A.units < cLine) : EqAt A s v v' (decide (x = y)) := by
  obtain ⟨t, ta, tb, rfl, hT⟩ := h
  obtain ⟨t', ta', tb', rfl, hT'⟩ := h'
  have hb : decide (x = y) = ((List.range (min 2 2)).all (fun j => if j = 0 then (Tx.mkS x.1 == Tx.mkS y.1) else ((byteArr x.2).toList == (byteArr y.2).toList)) && (2 == 2)) := by
    rw [mkS_inj, byteArr_inj hx hy]
    show _ = ((List.all [0, 1] _) && true)
    simp only [List.all_cons, List.all_nil, Bool.and_true]
    obtain ⟨x1, x2⟩ := x
    obtain ⟨y1, y2⟩ := y
    by_cases h1 : x1 = y1 <;> by_cases h2 : x2 = y2 <;> simp [h1, h2]
  by_cases hne : t = t'
  · subst hne
    obtain ⟨o, ho, _, n, hd⟩ := hT
    obtain ⟨o', ho', _, n', hd'⟩ := hT'
    cases ho.symm.trans ho'
    rw [hd] at hd'
    injection hd' with e1 e2
    have e3 := congrArg Array.toList e1
    injection e3 with e4 e5
    injection e5 with e6 e7
    injection e4 with e8 _
    injection e6 with e9 _
    have : x = y := by
      have h1 := mkS_inj (a := x.1) (b := y.1)
      have h2 := byteArr_inj hx hy
      rw [e8] at h1
      rw [e9] at h2
      have h1' : x.1 = y.1 := by simpa using h1
      have h2' : x.2 = y.2 := by simpa using h2
      exact Prod.ext h1' h2'
    rw [decide_eq_true this]
    exact EqAt.same _
  · rw [hb]
    refine EqAt.of_refs hne (RcAt.tuples hT hT' hu fun j h1 h2 => ?_)
    rcases j with _ | _ | j
    · exact (eqGives_str _ _ _ _).at _ _
    · exact eqAt_bytes _ _ _ _
    · exact absurd h1 (by simp)
end Mine
end

section
open PySem PySem.W PySem.Calls PyProof.Rows
namespace Mine
def SIGNS : List Str := [Str.ofString ".", Str.ofString "a", Str.ofString "b", Str.ofString " ", Str.ofString "\t", Str.ofString "-", Str.ofString "..", Str.ofString "z", Str.ofString "é", Str.ofString "\x0b"]
set_option maxRecDepth 100000 in
theorem digits_all : ∀ n : Fin 1000, ((Str.ofString (toString ((n.val : Nat) : Int))).cps.toList.all fun c => decide (48 ≤ c) && decide (c ≤ 57)) = true ∧ (Str.ofString (toString ((n.val : Nat) : Int))).cps.size ≤ 3 := by decide +kernel
theorem digits_of {z : Int} (h0 : 0 ≤ z) (h1 : z < 1000) : (∀ c ∈ (Str.ofString (toString z)).cps.toList, 48 ≤ c ∧ c ≤ 57) ∧ (Str.ofString (toString z)).cps.size ≤ 3 := by
  have := digits_all ⟨z.toNat, by omega⟩
  have e : ((z.toNat : Nat) : Int) = z := by omega
  simp only [e] at this
  refine ⟨fun c hc => ?_, this.2⟩
  have h := List.all_eq_true.mp this.1 c hc
  simpa using h
theorem digit_int {c : Nat} (h : 48 ≤ c ∧ c ≤ 57) : PySem.intText? ⟨#[c]⟩ = some ((c - 48 : Nat) : Int) := by
  obtain ⟨k, hk, rfl⟩ : ∃ k, k < 10 ∧ c = 48 + k := ⟨c - 48, by omega, by omega⟩
  have : ∀ k : Fin 10, PySem.intText? ⟨#[48 + k.val]⟩ = some ((48 + k.val - 48 : Nat) : Int) := by decide +kernel
  exact this ⟨k, hk⟩
/-- all signs of a name are seemly -/
theorem signs_ok : ∀ z ∈ SIGNS, z.cps.size ≤ 2 ∧ ∀ c ∈ z.cps.toList, c ≠ 10 ∧ c ≠ 13 ∧ c ≠ 58 := by decide +kernel
theorem join_ok : ∀ (zs : List Str), (∀ z ∈ zs, z ∈ SIGNS) → (∀ c ∈ (Str.join (Str.ofString "") zs).cps.toList, c ≠ 10 ∧ c ≠ 13 ∧ c ≠ 58) ∧ (Str.join (Str.ofString "") zs).length ≤ 2 * zs.length
  | [], _ => ⟨fun c hc => by rw [Str.join] at hc; simp [Str.empty] at hc, by rw [Str.join]; simp [Str.empty, Str.length]⟩
  | [x], h => by
    rw [Str.join]
    have := signs_ok x (h x (.head _))
    exact ⟨this.2, by have := this.1; show x.cps.size ≤ _; simpa using this⟩
  | x :: y :: r, h => by
    have ih := join_ok (y :: r) fun z hz => h z (.tail _ hz)
    have := signs_ok x (h x (.head _))
    have he : (Str.ofString "").cps = #[] := by decide +kernel
    have ej : Str.join (Str.ofString "") (x :: y :: r) = x ++ Str.ofString "" ++ Str.join (Str.ofString "") (y :: r) := by rw [Str.join]; simp
    rw [ej]
    refine ⟨fun c hc => ?_, ?_⟩
    · rw [Str.cps_append, Str.cps_append, he, Array.toList_append, Array.toList_append] at hc
      rcases List.mem_append.mp hc with hc | hc
      · rcases List.mem_append.mp hc with hc | hc
        · exact this.2 c hc
        · simp at hc
      · exact ih.1 c hc
    · rw [Str.length_append, Str.length_append]
      have h1 : (Str.ofString "").length = 0 := by decide +kernel
      have h2 : x.length ≤ 2 := this.1
      have h3 := ih.2
      rw [h1, List.length_cons]
      omega
end Mine
end

section
open PySem PySem.W PyProof.Rows
namespace Mine
section
variable {w : World} {A : Around} {s : Shared} {K : Frag}
/-- enter a def that has cells -/
theorem enterC {R : Result → Shared → Prop} {name qual : Str} {params : Arguments} {body : List Stmt} {scope : Scope} {dV kV doc pm cdv ct oc : Value} {an od : Option Addr} {osl : Array (Option Value)} {f : Addr} {args : Args} {binds : List (Str × Value)}
    (X : K.In s.heap) (hlim : s.heap.NoLimit)
    (ho : K.lookup f = some ⟨oc, od, .func (fnOf name qual params body scope dV kV doc pm an cdv ct), osl⟩) (hcd : codeIn K cdv qual = true) (hroom : A.depth < recursionLimit)
    (hbind : BindsTo s (fnOf name qual params body scope dV kV doc pm an cdv ct) args binds) (hkind : (binds.all fun y => scope.names.lookup y.1 == some .local || scope.names.lookup y.1 == some .cell) = true)
    (hnd : ((cellsFrom 0 scope.names []).map (·.1)).Nodup)
    (h : ∀ h₁ tk cells, Fr s.heap s.heap.objs.size h₁ (bindL (envOfC qual scope s.heap.objs.size f cdv).kindOf binds fun _ => none) → News s.heap s.heap.objs.size h₁ cells →
      CellsAre (bindC (envOfC qual scope s.heap.objs.size f cdv).kindOf binds fun _ => none) (cellsFrom (s.heap.objs.size + 1) scope.names []) cells →
      wpAny (model PP w) (A.deeper (envOfC qual scope s.heap.objs.size f cdv)) (execs body (envOfC qual scope s.heap.objs.size f cdv))
        (fun fl s' => R (.ok (.ret (match fl with | .ret v => v | _ => .none))) s')
        (fun _ _ => False)
        { s with heap := h₁, toks := tk })
    (hco : scope.isCoroutine = false := by rfl) (hgen : scope.isGenerator = false := by rfl) (hk : scope.kind = .function := by rfl) : codeAny (model PP w) A (.call (.ref f) args) R s := by
  refine codeAny_call_function hroom (X _ _ ho) rfl hco hgen rfl (codeRec_of X hcd) (hbind _ _ _ _ ?_)
  refine wpAny_newFunctionEnv_cells hk (kindsX hkind _) fun env' he s' x => ?_
  subst he
  refine ⟨hlim.keeps x.toInCall.keep, codeAny_func ?_⟩
  obtain ⟨h₁, tk, rfl, _⟩ := x.done
  obtain ⟨cells, NC, Y⟩ := Cl.news (h₀ := s.heap) (Nat.le_refl _) fun n c hm => ⟨x.cell n c (lookup_of_mem_nodup (cellsFrom_names scope.names 0 (s.heap.objs.size + 1) [] [] rfl ▸ hnd) hm), x.above n c hm⟩
  exact wpAny_mono (h h₁ tk cells ⟨x.toInCall.ns, x.toInCall.keep, Nat.le_refl _⟩ NC Y) (fun fl s' hl => hl) fun _ _ y => y.elim
end
end Mine
end

section
open PySem PySem.W PySem.Calls PyProof.Rows
namespace Mine
abbrev lst (ys : List Value) : Obj := { cls := .type "list", data := .seq ys.toArray ys.length }
def EndC (s₁ : Shared) (C : Addr) (own : List (Addr × Obj)) (J : Nat → List Value → List (Addr × Obj) → Prop) (i : Nat) (ys : List Value) (s₄ : Shared) : Prop :=
  ∃ h tk m nw, s₄ = { s₁ with heap := h, toks := tk } ∧ Fr s₁.heap C h m ∧ News s₁.heap C h (nw ++ own) ∧ (∀ p ∈ nw, ∀ q ∈ own, p.1 ≠ q.1) ∧ J i ys nw
theorem EndC.mk' {s₁ : Shared} {C : Addr} {own : List (Addr × Obj)} {J : Nat → List Value → List (Addr × Obj) → Prop} {i : Nat} {ys : List Value} {h : Heap} {tk : Nat} {m : Str → Option Value} {nw : List (Addr × Obj)}
    (F : Fr s₁.heap C h m) (N : News s₁.heap C h (nw ++ own)) (off : ∀ p ∈ nw, ∀ q ∈ own, p.1 ≠ q.1) (hJ : J i ys nw) : EndC s₁ C own J i ys { s₁ with heap := h, toks := tk } := ⟨h, tk, m, nw, rfl, F, N, off, hJ⟩
def TurnC (prog : Program) (w : World) (A : Around) (env : Env) (elt tgt : Expr) (ifs : List Expr) (scope : Scope) (cl : List (Str × Addr)) (s₁ : Shared) (n : Nat) (P : Nat → Value → Prop) (J : Nat → List Value → List (Addr × Obj) → Prop) : Prop :=
  ∀ i v ys nw own C h tk m (E' : Value → Shared → Prop), i < n → P i v → J i ys nw → (∀ p ∈ nw, ∀ q ∈ own, p.1 ≠ q.1) → Fr s₁.heap C h m → News s₁.heap C h (nw ++ own) →
    wpAny (model prog w) A (assign tgt (compEnvC scope cl C env) v) (fun _ s₂ =>
      wpAny (model prog w) A (forIn ifs true fun c r => if r = true then do let ok ← isTrue c (compEnvC scope cl C env) (eval c (compEnvC scope cl C env)); pure (ForInStep.yield ok) else pure (ForInStep.yield r)) (fun ok s₃ =>
        if ok = true then wpAny (model prog w) A (eval elt (compEnvC scope cl C env)) (fun y s₄ => EndC s₁ C own J (i + 1) (ys ++ [y]) s₄) E' s₃ else EndC s₁ C own J (i + 1) ys s₃) E' s₂) E' { s₁ with heap := h, toks := tk }
def FinC (s₁ : Shared) (n : Nat) (J : Nat → List Value → List (Addr × Obj) → Prop) (Q : Value → Shared → Prop) : Prop :=
  ∀ D ys nw h tk, J n ys nw → ys.length ≤ n → (∀ b o, s₁.heap.get? b = some o → h.get? b = some o) → s₁.heap.get? D = none → h.get? D = some (lst ys) → (∀ p ∈ nw, h.get? p.1 = some p.2 ∧ s₁.heap.get? p.1 = none ∧ p.1 ≠ D) → Q (.ref D) { s₁ with heap := h, toks := tk }
def SrcC (prog : Program) (w : World) (A : Around) (env : Env) (elt tgt : Expr) (ifs : List Expr) (scope : Scope) (cl : List (Str × Addr)) (s₁ : Shared) (Q : Value → Shared → Prop) (it : Value) (s₂ : Shared) : Prop :=
  ∃ I fp n P St J hI tkI, it = .ref I ∧ s₂ = { s₁ with heap := hI, toks := tkI } ∧ Walks prog w A I fp [I] n P St ∧ n ≤ sizeLine ∧ St 0 hI ∧ (∀ i h, St i h → ∃ o, h.get? I = some o) ∧ (∀ b o, s₁.heap.get? b = some o → hI.get? b = some o) ∧ s₁.heap.objs.size ≤ I ∧ (∀ b ∈ fp, b < hI.objs.size) ∧
    (∀ b ∈ fp, b ≠ I → ∃ o, s₁.heap.get? b = some o) ∧ J 0 [] [] ∧ TurnC prog w A env elt tgt ifs scope cl s₁ n P J ∧ FinC s₁ n J Q
section
variable {prog : Program} {w : World} {A : Around} {E : Value → Shared → Prop} {s : Shared} {env : Env}
theorem getNone {h : Heap} {a : Addr} (ha : h.objs.size ≤ a) : h.get? a = none := by
  cases e : h.get? a with
  | none => rfl
  | some o => exact absurd (Heap.lt_size e) (Nat.not_lt.mpr ha)
theorem blockC {elt iter tgt : Expr} {ifs : List Expr} {scope : Scope} {cl : List (Str × Addr)} {pos : Pos} {s₁ : Shared} {I : Addr} {fp : List Addr} {n : Nat} {P : Nat → Value → Prop} {St : Nat → Heap → Prop} {J : Nat → List Value → List (Addr × Obj) → Prop} {hI : Heap} {tkI : Nat}
    {RR : Value → Addr → Result → Shared → Prop}
    (W : Walks prog w A I fp [I] n P St) (hsz : n ≤ sizeLine) (hst : St 0 hI) (hIo : ∀ i h, St i h → ∃ o, h.get? I = some o) (kI : ∀ b o, s₁.heap.get? b = some o → hI.get? b = some o) (hIn : s₁.heap.objs.size ≤ I) (hfp : ∀ b ∈ fp, b < hI.objs.size)
    (hfb : ∀ b ∈ fp, b ≠ I → ∃ o, s₁.heap.get? b = some o) (hj : J 0 [] []) (ht : ∀ it v, letOwnedTupleGo tgt it v = pure ()) (turn : TurnC prog w A env elt tgt ifs scope cl s₁ n P J)
    (hcell : ∀ y ∈ scope.names, y.2 ≠ .cell) (hkind : scope.kind = .function)
    (hRR : ∀ D C ys nw h tk m', J n ys nw → ys.length ≤ n → (∀ b o, s₁.heap.get? b = some o → h.get? b = some o) → s₁.heap.get? D = none → s₁.heap.get? C = none → h.get? D = some (lst ys) → h.Ns C m' → D ≠ C → (∀ p ∈ nw, h.get? p.1 = some p.2 ∧ s₁.heap.get? p.1 = none ∧ p.1 ≠ D ∧ p.1 ≠ C) → RR (.ref D) C (.ok .next) { s₁ with heap := h, toks := tk }) :
    wpAny (model prog w) A (newList []) (fun acc s₃ => wpAny (model prog w) A (newFunctionEnv scope env.globals cl [] env.qual none .none (some env)) (fun cenv s₄ =>
      codeAny (model prog w) A (.compStart (.ListComp elt [⟨tgt, iter, ifs, 0⟩] scope pos) 0 (.ref I) acc { cenv with scope := relabel scope env }) (RR acc cenv.locals) s₄) E s₃) E { s₁ with heap := hI, toks := tkI } := by
  refine wpAny_newObj_type (wpAny_newFunctionEnv hcell (by intro y hy; simp at hy) (fun h₁ hns₁ hsb₁ => ?_) hkind)
  dsimp only at hns₁ hsb₁ ⊢
  generalize hH2 : hI.push { cls := .type "list", dict := none, data := .seq ([] : List Value).toArray } = H2 at hns₁ hsb₁ ⊢
  have hC : H2.objs.size = hI.objs.size + 1 := by rw [← hH2, Heap.size_push]
  have hDC : hI.objs.size ≠ H2.objs.size := by rw [hC]; exact Nat.ne_of_lt (Nat.lt_succ_self _)
  have below : ∀ b, b < hI.objs.size → b ≠ H2.objs.size ∧ b ≠ hI.objs.size := fun b hb => ⟨by rw [hC]; exact Nat.ne_of_lt (Nat.lt_succ_of_lt hb), Nat.ne_of_lt hb⟩
  have hDf : hI.objs.size ∉ fp := fun hm => Nat.lt_irrefl _ (hfp _ hm)
  have hCf : H2.objs.size ∉ fp := fun hm => by have := hfp _ hm; rw [hC] at this; exact Nat.lt_irrefl _ (Nat.lt_of_succ_lt this)
  have hIf : I ∈ fp := W.sub I (List.mem_singleton.mpr rfl)
  have hIlt : I < hI.objs.size := hfp I hIf
  have old : ∀ b o, hI.get? b = some o → h₁.get? b = some o := fun b o e => hsb₁.extBut b o (below b (Heap.lt_size e)).1 (Heap.get?_push_of_some _ (hH2 ▸ Heap.get?_push_of_some _ e))
  have hacc : h₁.get? hI.objs.size = some (lst []) := hsb₁.extBut _ _ hDC (Heap.get?_push_of_some _ (hH2 ▸ Heap.get?_push_size _ rfl))
  have hst₁ : St 0 h₁ := W.frame _ _ _ hst fun b _ o e => old b o e
  have hDb : s₁.heap.objs.size ≤ hI.objs.size := Nat.le_of_lt (Nat.lt_of_le_of_lt hIn hIlt)
  have hCb : s₁.heap.objs.size ≤ H2.objs.size := by rw [hC]; exact Nat.le_succ_of_le hDb
  have hD₀ : s₁.heap.get? hI.objs.size = none := getNone hDb
  have hC₀ : s₁.heap.get? H2.objs.size = none := getNone hCb
  have hI₀ : s₁.heap.get? I = none := getNone hIn
  have hCI : I ≠ H2.objs.size := (below I hIlt).1
  have hDI : I ≠ hI.objs.size := (below I hIlt).2
  have loop : ∀ s₃ : Shared, s₃ = { s₁ with heap := h₁, toks := tkI + ([] : List (Str × Value)).length } →
      codeAny (model prog w) A (.compLoop (.ListComp elt [⟨tgt, iter, ifs, 0⟩] scope pos) 0 (.ref I) (.ref hI.objs.size) (compEnvC scope cl H2.objs.size env))
        (RR (.ref hI.objs.size) H2.objs.size) s₃ := by
    rintro s₃ rfl
    refine codeAny_compLoop_tests
      (fun k s' => ∃ h' tk i ys m' nw, s' = { s₁ with heap := h', toks := tk } ∧ i ≤ n ∧ k = n + 1 - i ∧ ys.length ≤ i ∧ St i h' ∧ Fr s₁.heap H2.objs.size h' m' ∧ News s₁.heap H2.objs.size h' (nw ++ [(hI.objs.size, lst ys)]) ∧
        (∀ p ∈ nw, p.1 ≠ I ∧ p.1 ≠ hI.objs.size) ∧ J i ys nw) ?_ (n + 1)
      ⟨h₁, _, 0, [], _, [], rfl, Nat.zero_le _, rfl, Nat.le_refl _, hst₁, ⟨hns₁, fun b o e => old b o (kI b o e), hCb⟩, fun p hp => ?_, fun p hp => (nomatch hp), hj⟩ (fun v => ht _ v)
    · rintro k s' ⟨h', tk, i, ys, m', nw, rfl, hi, rfl, hyl, hst', F', N', off', hJ⟩
      by_cases hlt : i < n
      · refine W.item i _ _ _ hlt hst' fun v h₂ tk₂ hPv hst₂ hk₂ => ?_
        obtain ⟨oI, heI⟩ := hIo _ _ hst₂
        have F₂ : Fr s₁.heap H2.objs.size h₂ m' := ⟨F'.ns.at' fun o e => hk₂ _ o (by simpa using Ne.symm hCI) e, fun b o e => hk₂ b o (fun hm => by rw [List.mem_singleton.mp hm, hI₀] at e; cases e) (F'.keep b o e), F'.above⟩
        have N₂ : News s₁.heap H2.objs.size h₂ (nw ++ [(I, oI), (hI.objs.size, lst ys)]) := fun p hp => by
          rcases List.mem_append.mp hp with hp | hp
          · have z := N' p (List.mem_append_left _ hp)
            exact ⟨hk₂ _ _ (by simpa using (off' p hp).1) z.1, z.2⟩
          · rcases List.mem_cons.mp hp with rfl | hp
            · exact ⟨heI, hCI, hI₀⟩
            · have z := N' p (List.mem_append_right _ hp)
              refine ⟨hk₂ _ _ ?_ z.1, z.2⟩
              rw [List.mem_singleton.mp hp]
              simpa using Ne.symm hDI
        have offq : ∀ p ∈ nw, ∀ q ∈ [(I, oI), (hI.objs.size, lst ys)], p.1 ≠ q.1 := fun p hp q hq => by
          rcases List.mem_cons.mp hq with rfl | hq
          · exact (off' p hp).1
          · rw [List.mem_singleton.mp hq]; exact (off' p hp).2
        refine wpAny_mono (turn i v ys nw [(I, oI), (hI.objs.size, lst ys)] H2.objs.size h₂ tk₂ m' _ hlt hPv hJ offq F₂ N₂) (fun _ s₅ h₅ => wpAny_mono h₅ (fun ok s₆ h₆ => ?_) fun _ _ e => e) fun _ _ e => e
        have fin : ∀ s₇ ys', EndC s₁ H2.objs.size [(I, oI), (hI.objs.size, lst ys)] J (i + 1) ys' s₇ → ∃ h₄ tk₄ m₄ nw₄, s₇ = { s₁ with heap := h₄, toks := tk₄ } ∧ St (i + 1) h₄ ∧ Fr s₁.heap H2.objs.size h₄ m₄ ∧ News s₁.heap H2.objs.size h₄ (nw₄ ++ [(hI.objs.size, lst ys)]) ∧ (∀ p ∈ nw₄, p.1 ≠ I ∧ p.1 ≠ hI.objs.size) ∧ J (i + 1) ys' nw₄ := by
          rintro s₇ ys' ⟨h₄, tk₄, m₄, nw₄, rfl, F₄, N₄, off₄, J₄⟩
          refine ⟨h₄, tk₄, m₄, nw₄, rfl, W.frame _ _ _ hst₂ fun b hb o e => ?_, F₄, fun p hp => N₄ p ?_, fun p hp => ⟨off₄ p hp (I, oI) (.head _), off₄ p hp (hI.objs.size, lst ys) (.tail _ (.head _))⟩, J₄⟩
          · by_cases hbI : b = I
            · subst hbI
              rw [heI] at e; cases e
              exact (N₄ (b, oI) (List.mem_append_right _ (.head _))).1
            · obtain ⟨o', e'⟩ := hfb b hb hbI
              have := F₂.keep b o' e'
              rw [this] at e; cases e
              exact F₄.keep b o e'
          · rcases List.mem_append.mp hp with hp | hp
            · exact List.mem_append_left _ hp
            · exact List.mem_append_right _ (.tail _ hp)
        cases ok with
        | false =>
          rw [if_neg (by decide)] at h₆
          rw [if_neg (by decide)]
          obtain ⟨h₄, tk₄, m₄, nw₄, rfl, hst₄, F₄, N₄, off₄, J₄⟩ := fin _ _ h₆
          exact ⟨n + 1 - (i + 1), by omega, h₄, tk₄, i + 1, ys, m₄, nw₄, rfl, hlt, rfl, by omega, hst₄, F₄, N₄, off₄, J₄⟩
        | true =>
          rw [if_pos rfl] at h₆
          rw [if_pos rfl]
          refine wpAny_mono h₆ (fun y s₇ h₇ => ?_) fun _ _ e => e
          obtain ⟨h₄, tk₄, m₄, nw₄, rfl, hst₄, F₄, N₄, off₄, J₄⟩ := fin _ _ h₇
          have zD := (N₄ (hI.objs.size, lst ys) (List.mem_append_right _ (.head _))).1
          refine append_at (hsz := by show ys.toArray.size ≤ sizeLine; rw [List.size_toArray]; omega) zD fun h₅ hs₅ hD₅ => ?_
          refine ⟨n + 1 - (i + 1), by omega, h₅, tk₄, i + 1, ys ++ [y], m₄, nw₄, rfl, hlt, rfl, by rw [List.length_append, List.length_singleton]; omega, W.frame _ _ _ hst₄ fun b hb o e => hs₅.extBut b o (fun q => hDf (q ▸ hb)) e, F₄.change hs₅ hDC hD₀, fun p hp => ?_, off₄, J₄⟩
          rcases List.mem_append.mp hp with hp | hp
          · have z := N₄ p (List.mem_append_left _ hp)
            exact ⟨hs₅.extBut _ _ (off₄ p hp).2 z.1, z.2⟩
          · rw [List.mem_singleton.mp hp]
            exact ⟨hD₅.trans (congrArg some (by rw [List.push_toArray]; show _ = lst (ys ++ [y]); simp [lst])), hDC, hD₀⟩
      · obtain rfl : i = n := Nat.le_antisymm hi (Nat.not_lt.mp hlt)
        refine W.done _ _ _ hst' fun h₂ tk₂ hk₂ => ?_
        have zD := (N' (hI.objs.size, lst ys) (List.mem_append_right _ (.head _))).1
        refine hRR _ _ ys nw h₂ tk₂ m' hJ hyl (fun b o e => hk₂ b o (fun hm => by rw [List.mem_singleton.mp hm, hI₀] at e; cases e) (F'.keep b o e)) hD₀ hC₀ (hk₂ _ _ (by simpa using Ne.symm hDI) zD) (F'.ns.at' fun o e => hk₂ _ o (by simpa using Ne.symm hCI) e) hDC fun p hp => ?_
        have z := N' p (List.mem_append_left _ hp)
        exact ⟨hk₂ _ _ (by simpa using (off' p hp).1) z.1, z.2.2, (off' p hp).2, z.2.1⟩
    · rw [List.mem_singleton.mp hp]
      exact ⟨hacc, hDC, hD₀⟩
  exact codeAny_compStart_list (loop _ rfl) (W.self 0 _ _ _ hst₁ (loop _ rfl))

theorem compG {elt iter tgt : Expr} {ifs : List Expr} {scope : Scope} {cl : List (Str × Addr)} {pos : Pos} {Q : Value → Shared → Prop}
    (hclos : closureFor scope env = pure cl) (hcell : ∀ y ∈ scope.names, y.2 ≠ .cell) (hkind : scope.kind = .function)
    (hnames : ∀ y ∈ scope.names, y.2 = .local → scope.names.lookup y.1 = some .local)
    (h : wpAny (model prog w) A (eval iter env) (fun xv s₁ => wpAny (model prog w) A (pyIter xv) (fun it s₂ => SrcC prog w A env elt tgt ifs scope cl s₁ Q it s₂) E s₁) E s)
    (ht : ∀ it v, letOwnedTupleGo tgt it v = pure () := by intro _ _; rfl)
    (hs : ∀ x, foldedSetIterable iter env x = pure x := by intro _; rfl) :
    wpAny (model prog w) A (eval (.ListComp elt [⟨tgt, iter, ifs, 0⟩] scope pos) env) Q E s := by
  rw [eval_ListComp]
  refine wpAny_comprehension_free (use := none) rfl hs hclos hkind hnames (wpAny_mono h (fun xv s₁ h₁ => wpAny_mono h₁ (fun it s₂ h₂ => ?_) fun _ _ e => e) fun _ _ e => e)
  obtain ⟨I, fp, n, P, St, J, hI, tkI, rfl, rfl, W, hsz, hst, hIo, kI, hIn, hfp, hfb, hj, turn, fin⟩ := h₂
  refine blockC (RR := fun acc C => compPost (model prog w) A E none Q acc C) W hsz hst hIo kI hIn hfp hfb hj ht turn hcell hkind ?_
  intro D C ys nw h tk m' hJ hyl k hD₀ hC₀ hD hn hDC hnw
  refine ⟨m', hn, fun h'' hs'' => fin D ys nw h'' tk hJ hyl (fun b o e => hs''.extBut b o (by rintro rfl; rw [hC₀] at e; cases e) (k b o e)) hD₀ (hs''.extBut _ _ hDC hD) fun p hp => ?_⟩
  have z := hnw p hp
  exact ⟨hs''.extBut _ _ z.2.2.2 z.1, z.2.1, z.2.2.1⟩
end
end Mine
end

section
open PySem PySem.W PySem.Calls PyProof.Rows
namespace Mine
section
variable {prog : Program} {w : World} {A : Around} {E : Value → Shared → Prop} {s : Shared} {env : Env} {elt tgt : Expr} {ifs : List Expr} {scope : Scope} {cl : List (Str × Addr)} {Q : Value → Shared → Prop}
theorem srcList {l : Addr} {items : Array Value} (hh : A.handled = none) (hl : s.heap.IsList l items) (hsz : items.size ≤ sizeLine) (J : Nat → List Value → List (Addr × Obj) → Prop) (hj : J 0 [] [])
    (turn : TurnC prog w A env elt tgt ifs scope cl s items.size (fun i v => items[i]? = some v) J) (fin : FinC s items.size J Q) :
    wpAny (model prog w) A (pyIter (.ref l)) (fun it s₂ => SrcC prog w A env elt tgt ifs scope cl s Q it s₂) E s := by
  have hlt : l < s.heap.objs.size := by obtain ⟨o, ho, _⟩ := hl; exact Heap.lt_size ho
  refine wpAny_pyIter_list hl ?_
  refine ⟨_, _, _, _, _, J, _, _, rfl, rfl, Walks.list hh s.heap.objs.size l (Nat.ne_of_lt hlt) items, hsz, ⟨⟨_, Heap.get?_push_size _ rfl, rfl, rfl⟩, ?_⟩, fun i h st => by obtain ⟨o, e, _⟩ := st.1; exact ⟨o, e⟩, fun b o e => Heap.get?_push_of_some _ e, Nat.le_refl _, fun b hb => ?_, fun b hb hne => ?_, hj, turn, fin⟩
  · obtain ⟨o, ho, r⟩ := hl
    exact ⟨o, Heap.get?_push_of_some _ ho, r⟩
  · rw [Heap.size_push]
    rcases List.mem_cons.mp hb with rfl | hb
    · exact Nat.lt_succ_self _
    · rw [List.mem_singleton.mp hb]; exact Nat.lt_succ_of_lt hlt
  · rcases List.mem_cons.mp hb with rfl | hb
    · exact absurd rfl hne
    · obtain ⟨o, ho, _⟩ := hl
      rw [List.mem_singleton.mp hb]; exact ⟨o, ho⟩
theorem srcRange {r : Addr} {n : Nat} {t u v : Tok} (hh : A.handled = none) (hr : IsRange s.heap r 0 (n : Int) 1 t u v) (hn : n ≤ 1000000) (J : Nat → List Value → List (Addr × Obj) → Prop) (hj : J 0 [] [])
    (turn : TurnC prog w A env elt tgt ifs scope cl s n (fun i v => ∃ t, v = .int (i : Int) t) J) (fin : FinC s n J Q) :
    wpAny (model prog w) A (pyIter (.ref r)) (fun it s₂ => SrcC prog w A env elt tgt ifs scope cl s Q it s₂) E s := by
  have hsz : (Builtin.Range.rangeSize 0 (n : Int) 1) = n := by
    unfold Builtin.Range.rangeSize
    simp
    intro e; omega
  refine wpAny_pyIter_range hr ?hsm ?hgo
  case hsm =>
    have f : ∀ z : Int, -1 ≤ z → z ≤ 1000000 → Builtin.Range.rangeFitsLong z = true := fun z a b => by
      unfold Builtin.Range.rangeFitsLong
      simp; omega
    rw [Builtin.Range.small]
    simp only [hsz]
    rw [f 0 (by omega) (by omega), f n (by omega) (by omega), f 1 (by omega) (by omega), if_pos (by decide), f (n + (1 - 1)) (by omega) (by omega)]
    simp
  refine ⟨_, _, _, _, _, J, _, _, rfl, rfl, LCg.range_walks (I := s.heap.objs.size) hh 0 n, by rw [sizeLine_eq]; omega, ?_, fun i h st => ⟨_, st⟩, fun b o e => Heap.get?_push_of_some _ e, Nat.le_refl _, fun b hb => ?_, fun b hb hne => absurd (List.mem_singleton.mp hb) hne, hj, ?_, fin⟩
  · rw [hsz]
    have e1 : (0 : Int) + ((0 : Nat) : Int) * 1 = 0 := by omega
    have e2 : ((n : Int) - ((0 : Nat) : Int)) = n := by omega
    rw [e1, e2]
    exact Heap.get?_push_size _ rfl
  · rw [Heap.size_push, List.mem_singleton.mp hb]
    exact Nat.lt_succ_self _
  · intro i v ys nw own C h tk m E' hi hP
    obtain ⟨t, rfl⟩ := hP
    have e : (0 : Int) + (i : Int) = i := by omega
    rw [e]
    exact turn i _ ys nw own C h tk m E' hi ⟨t, rfl⟩
theorem srcStr {x : Str} {tx : Tok} (hh : A.handled = none) (hsz : x.cps.size ≤ sizeLine) (J : Nat → List Value → List (Addr × Obj) → Prop) (hj : J 0 [] [])
    (turn : TurnC prog w A env elt tgt ifs scope cl s x.cps.size (SignAt x) J) (fin : FinC s x.cps.size J Q) :
    wpAny (model prog w) A (pyIter (.str x tx)) (fun it s₂ => SrcC prog w A env elt tgt ifs scope cl s Q it s₂) E s := by
  have key : ∀ T : String, Walks prog w A s.heap.objs.size [s.heap.objs.size] [s.heap.objs.size] x.cps.size (SignAt x) (fun i h => h.IsStrIter s.heap.objs.size T x tx i) →
      (∃ o : Obj, (s.heap.push o).IsStrIter s.heap.objs.size T x tx 0 ∧ { s with heap := s.heap.push o } = { s with heap := s.heap.push { cls := .type T, data := .fields #[.str x tx, .int 0 0] } }) →
      SrcC prog w A env elt tgt ifs scope cl s Q (.ref s.heap.objs.size) { s with heap := s.heap.push { cls := .type T, data := .fields #[.str x tx, .int 0 0] } } := by
    rintro T W ⟨o, h0, e⟩
    rw [← e]
    refine ⟨_, _, _, _, _, J, _, _, rfl, rfl, W, hsz, h0, fun i h st => by obtain ⟨o, e, _⟩ := st; exact ⟨o, e⟩, fun b o e => Heap.get?_push_of_some _ e, Nat.le_refl _, fun b hb => ?_, fun b hb hne => absurd (List.mem_singleton.mp hb) hne, hj, turn, fin⟩
    rw [Heap.size_push, List.mem_singleton.mp hb]
    exact Nat.lt_succ_self _
  cases ha : x.cps.all (· < 128)
  · exact wpAny_pyIter_wide ha (key _ (Walks.strWide hh _ x tx) ⟨_, ⟨_, Heap.get?_push_size _ rfl, rfl, rfl⟩, rfl⟩)
  · exact wpAny_pyIter_ascii ha (key _ (Walks.strAscii hh _ x tx) ⟨_, ⟨_, Heap.get?_push_size _ rfl, rfl, rfl⟩, rfl⟩)
/-- a turn whose target is one name, without tests -/
theorem turnName {s₁ : Shared} {n : Nat} {P : Nat → Value → Prop} {J : Nat → List Value → List (Addr × Obj) → Prop} {x : Str} {px : Pos} (hkind : scope.kind = .function) (hx : scope.names.lookup x = some .local)
    (h : ∀ i v ys nw own C h tk (m : Str → Option Value) (E' : Value → Shared → Prop), i < n → P i v → J i ys nw → (∀ p ∈ nw, ∀ q ∈ own, p.1 ≠ q.1) → Fr s₁.heap C h (fun y => if y = x then some v else m y) → News s₁.heap C h (nw ++ own) →
      wpAny (model prog w) A (eval elt (compEnvC scope cl C env)) (fun y s₄ => EndC s₁ C own J (i + 1) (ys ++ [y]) s₄) E' { s₁ with heap := h, toks := tk }) :
    TurnC prog w A env elt (.Name x px) [] scope cl s₁ n P J := by
  intro i v ys nw own C hp tk m E' hi hP hJ off F N
  refine wpAny_assign_Name (wpAny_storeName_local (lookup_relabel_local hx) F.ns (fun h₃ hn₃ hs₃ => ?_) (by simp [compEnvC, relabel, hkind]))
  refine wpAny_tests_nil ?_
  simp only [if_true]
  exact h i v ys nw own C h₃ _ m E' hi hP hJ off (F.set hn₃ hs₃) (N.set hs₃)
/-- a turn whose target is one name, with one test -/
theorem turnTest {s₁ : Shared} {n : Nat} {P : Nat → Value → Prop} {J : Nat → List Value → List (Addr × Obj) → Prop} {x : Str} {px : Pos} {c : Expr} (hkind : scope.kind = .function) (hx : scope.names.lookup x = some .local)
    (h : ∀ i v ys nw own C h tk (m : Str → Option Value) (E' : Value → Shared → Prop), i < n → P i v → J i ys nw → (∀ p ∈ nw, ∀ q ∈ own, p.1 ≠ q.1) → Fr s₁.heap C h (fun y => if y = x then some v else m y) → News s₁.heap C h (nw ++ own) →
      wpAny (model prog w) A (isTrue c (compEnvC scope cl C env) (eval c (compEnvC scope cl C env))) (fun ok s₃ => if ok = true then wpAny (model prog w) A (eval elt (compEnvC scope cl C env)) (fun y s₄ => EndC s₁ C own J (i + 1) (ys ++ [y]) s₄) E' s₃ else EndC s₁ C own J (i + 1) ys s₃) E' { s₁ with heap := h, toks := tk }) :
    TurnC prog w A env elt (.Name x px) [c] scope cl s₁ n P J := by
  intro i v ys nw own C hp tk m E' hi hP hJ off F N
  refine wpAny_assign_Name (wpAny_storeName_local (lookup_relabel_local hx) F.ns (fun h₃ hn₃ hs₃ => ?_) (by simp [compEnvC, relabel, hkind]))
  refine wpAny_tests_one ?_
  exact h i v ys nw own C h₃ _ m E' hi hP hJ off (F.set hn₃ hs₃) (N.set hs₃)
/-- a turn whose target is a pair of names, without tests -/
theorem turnPair {s₁ : Shared} {n : Nat} {P : Nat → Value → Prop} {J : Nat → List Value → List (Addr × Obj) → Prop}
    (h : ∀ i v ys nw own C h tk (m : Str → Option Value) (E' : Value → Shared → Prop), i < n → P i v → J i ys nw → (∀ p ∈ nw, ∀ q ∈ own, p.1 ≠ q.1) → Fr s₁.heap C h m → News s₁.heap C h (nw ++ own) →
      wpAny (model prog w) A (assign tgt (compEnvC scope cl C env) v) (fun _ s₃ => wpAny (model prog w) A (eval elt (compEnvC scope cl C env)) (fun y s₄ => EndC s₁ C own J (i + 1) (ys ++ [y]) s₄) E' s₃) E' { s₁ with heap := h, toks := tk }) :
    TurnC prog w A env elt tgt [] scope cl s₁ n P J := by
  intro i v ys nw own C hp tk m E' hi hP hJ off F N
  refine wpAny_mono (h i v ys nw own C hp tk m E' hi hP hJ off F N) (fun _ s₃ h₃ => ?_) fun _ _ e => e
  refine wpAny_tests_nil ?_
  simp only [if_true]
  exact h₃
/-- what a call brought is new beside what stood -/
theorem newOff {h₀ h : Heap} {L a : Addr} {own nw : List (Addr × Obj)} (N : News h₀ L h (nw ++ own)) (ha : h.get? a = none) : ∀ q ∈ own, a ≠ q.1 := fun q hq e => by
  have := (N q (List.mem_append_right _ hq)).1
  rw [← e, ha] at this; cases this
theorem newsAdd {h₀ h h' : Heap} {L a : Addr} {o : Obj} {m : Str → Option Value} {nw : List (Addr × Obj)} (F : Fr h₀ L h m) (N : News h₀ L h nw) (k : ∀ b o, h.get? b = some o → h'.get? b = some o) (ha : h.get? a = none) (ho : h'.get? a = some o) : News h₀ L h' ((a, o) :: nw) := fun p hp => by
  rcases List.mem_cons.mp hp with rfl | hp
  · refine ⟨ho, fun e => ?_, ?_⟩
    · have := Heap.lt_size ho
      obtain ⟨o', _, _, hL, _⟩ := F.ns
      rw [show L = a from e.symm, ha] at hL; cases hL
    · cases e : h₀.get? a with
      | none => rfl
      | some o' => rw [F.keep a o' e] at ha; cases ha
  · exact ⟨k _ _ (N p hp).1, (N p hp).2⟩
end
end Mine
end

section
open PySem PySem.W PySem.Calls PyProof.Rows
namespace Mine
section
variable {M : Model} {A : Around} {E : Value → Shared → Prop} {s : Shared} {h₀ : Heap} {C c : Addr} {m : Str → Option Value} {scope : Scope} {cl : List (Str × Addr)} {env : Env} {x : Str} {pos : Pos} {v : Value} {Q : Value → Shared → Prop}
theorem cLoc (F : Fr h₀ C s.heap m) (hx : m x = some v) (h : Q v s)
    (hk : (compEnvC scope cl C env).scope.kind = .function := by rfl) (hl : (compEnvC scope cl C env).kindOf x = some .local := by rfl) (hd : (x == ("__debug__" : Str)) = false := by decide) :
    wpAny M A (eval (.Name x pos) (compEnvC scope cl C env)) Q E s := ldVarK F.ns hx h hk hl hd
theorem ldE {L : Addr} (F : Fr h₀ L s.heap m) (hv : m x = some v) (h : Q v s) (hL : env.locals = L := by rfl) (hk : env.scope.kind = .function := by rfl) (hl : env.kindOf x = some .local := by rfl) (hd : (x == ("__debug__" : Str)) = false := by decide) :
    wpAny M A (eval (.Name x pos) env) Q E s := wpAny_Name (wpAny_loadName_local hk hl (hL ▸ F.ns) hv h) hd
theorem cCell (hv : s.heap.IsCell c (some v)) (h : Q v s) (hc : cl.lookup x = some c := by rfl)
    (hk : (compEnvC scope cl C env).scope.kind = .function := by rfl) (hx : (compEnvC scope cl C env).kindOf x = some .cell := by rfl) (hb : (x == ("__debug__" : Str)) = false := by decide) :
    wpAny M A (eval (.Name x pos) (compEnvC scope cl C env)) Q E s := wpAny_Name (wpAny_loadName_cell hk hx hc hv h) hb
end
end Mine
end

section
open PySem PySem.W PySem.Calls PyProof.Rows
namespace Mine
def BindPost (Q : Flow → Shared → Prop) (C : Addr) (s₄ : Shared) : Prop := ∃ m, s₄.heap.Ns C m ∧ ∀ h', Heap.SameBut C s₄.heap h' → Q .next { s₄ with heap := h' }
/-- what is shown of a comprehension bound to a name, ahead of its variables' end -/
def FinA (s₁ : Shared) (n : Nat) (J : Nat → List Value → List (Addr × Obj) → Prop) (P : Addr → Addr → List Value → List (Addr × Obj) → Shared → Prop) : Prop :=
  ∀ D C ys nw h tk m', J n ys nw → ys.length ≤ n → (∀ b o, s₁.heap.get? b = some o → h.get? b = some o) → s₁.heap.get? D = none → s₁.heap.get? C = none → h.get? D = some (lst ys) → h.Ns C m' → D ≠ C → (∀ p ∈ nw, h.get? p.1 = some p.2 ∧ s₁.heap.get? p.1 = none ∧ p.1 ≠ D ∧ p.1 ≠ C) → P D C ys nw { s₁ with heap := h, toks := tk }
def SrcA (prog : Program) (w : World) (A : Around) (env : Env) (elt tgt : Expr) (ifs : List Expr) (scope : Scope) (cl : List (Str × Addr)) (s₁ : Shared) (P' : Addr → Addr → List Value → List (Addr × Obj) → Shared → Prop) (it : Value) (s₂ : Shared) : Prop :=
  ∃ I fp n P St J hI tkI, it = .ref I ∧ s₂ = { s₁ with heap := hI, toks := tkI } ∧ Walks prog w A I fp [I] n P St ∧ n ≤ sizeLine ∧ St 0 hI ∧ (∀ i h, St i h → ∃ o, h.get? I = some o) ∧ (∀ b o, s₁.heap.get? b = some o → hI.get? b = some o) ∧ s₁.heap.objs.size ≤ I ∧ (∀ b ∈ fp, b < hI.objs.size) ∧
    (∀ b ∈ fp, b ≠ I → ∃ o, s₁.heap.get? b = some o) ∧ J 0 [] [] ∧ TurnC prog w A env elt tgt ifs scope cl s₁ n P J ∧ FinA s₁ n J P'
section
variable {prog : Program} {w : World} {A : Around} {E : Value → Shared → Prop} {s : Shared} {env : Env}
theorem compGA {elt iter tgt : Expr} {ifs : List Expr} {scope : Scope} {cl : List (Str × Addr)} {pos spos py : Pos} {y : Str} {Q : Flow → Shared → Prop}
    (hsw : swapsWith (.ListComp elt [⟨tgt, iter, ifs, 0⟩] scope pos) (some (.Name y py)) spos.line env = pure true)
    (hclos : closureFor scope env = pure cl) (hcell : ∀ y ∈ scope.names, y.2 ≠ .cell) (hkind : scope.kind = .function)
    (hnames : ∀ y ∈ scope.names, y.2 = .local → scope.names.lookup y.1 = some .local)
    (h : wpAny (model prog w) A (eval iter env) (fun xv s₁ => wpAny (model prog w) A (pyIter xv) (fun it s₂ => SrcA prog w A env elt tgt ifs scope cl s₁ (fun D C _ _ s₃ =>
      wpAny (model prog w) A (assign (.Name y py) env (.ref D)) (fun _ s₄ => BindPost Q C s₄) E s₃) it s₂) E s₁) E s)
    (ht : ∀ it v, letOwnedTupleGo tgt it v = pure () := by intro _ _; rfl)
    (hs : ∀ x, foldedSetIterable iter env x = pure x := by intro _; rfl) :
    wpAny (model prog w) A (exec (.Assign [.Name y py] (.ListComp elt [⟨tgt, iter, ifs, 0⟩] scope pos) spos) env) Q E s := by
  rw [exec_Assign_Name_used _ _ _ _ hsw]
  refine wpAny_bind (wpAny_standAt (wpAny_bind ?_))
  show wpAny _ A (do let _ ← comprehension (.ListComp elt [⟨tgt, iter, ifs, 0⟩] scope pos) scope env _ (newList []) false (eval iter env) (some (assign (.Name y py) env))) _ _ s
  refine wpAny_bind (wpAny_mono (wpAny_comprehension_free (use := some (assign (.Name y py) env)) (Q := fun _ s' => Q .next s') rfl hs hclos hkind hnames
    (wpAny_mono h (fun xv s₁ h₁ => wpAny_mono h₁ (fun it s₂ h₂ => ?_) fun _ _ e => e) fun _ _ e => e)) (fun _ s' hq => wpAny_pure (wpAny_pure hq)) fun _ _ e => e)
  obtain ⟨I, fp, n, P, St, J, hI, tkI, rfl, rfl, W, hsz, hst, hIo, kI, hIn, hfp, hfb, hj, turn, fin⟩ := h₂
  refine blockC (RR := fun acc C => compPost (model prog w) A E (some (assign (.Name y py) env)) (fun _ s' => Q .next s') acc C) W hsz hst hIo kI hIn hfp hfb hj ht turn hcell hkind ?_
  intro D C ys nw h tk m' hJ hyl k hD₀ hC₀ hD hn hDC hnw
  exact fin D C ys nw h tk m' hJ hyl k hD₀ hC₀ hD hn hDC hnw
end
section
variable {prog : Program} {w : World} {A : Around} {E : Value → Shared → Prop} {s : Shared} {env : Env} {elt tgt : Expr} {ifs : List Expr} {scope : Scope} {cl : List (Str × Addr)} {P' : Addr → Addr → List Value → List (Addr × Obj) → Shared → Prop}
theorem srcListA {l : Addr} {items : Array Value} (hh : A.handled = none) (hl : s.heap.IsList l items) (hsz : items.size ≤ sizeLine) (J : Nat → List Value → List (Addr × Obj) → Prop) (hj : J 0 [] [])
    (turn : TurnC prog w A env elt tgt ifs scope cl s items.size (fun i v => items[i]? = some v) J) (fin : FinA s items.size J P') :
    wpAny (model prog w) A (pyIter (.ref l)) (fun it s₂ => SrcA prog w A env elt tgt ifs scope cl s P' it s₂) E s := by
  have hlt : l < s.heap.objs.size := by obtain ⟨o, ho, _⟩ := hl; exact Heap.lt_size ho
  refine wpAny_pyIter_list hl ?_
  refine ⟨_, _, _, _, _, J, _, _, rfl, rfl, Walks.list hh s.heap.objs.size l (Nat.ne_of_lt hlt) items, hsz, ⟨⟨_, Heap.get?_push_size _ rfl, rfl, rfl⟩, ?_⟩, fun i h st => by obtain ⟨o, e, _⟩ := st.1; exact ⟨o, e⟩, fun b o e => Heap.get?_push_of_some _ e, Nat.le_refl _, fun b hb => ?_, fun b hb hne => ?_, hj, turn, fin⟩
  · obtain ⟨o, ho, r⟩ := hl
    exact ⟨o, Heap.get?_push_of_some _ ho, r⟩
  · rw [Heap.size_push]
    rcases List.mem_cons.mp hb with rfl | hb
    · exact Nat.lt_succ_self _
    · rw [List.mem_singleton.mp hb]; exact Nat.lt_succ_of_lt hlt
  · rcases List.mem_cons.mp hb with rfl | hb
    · exact absurd rfl hne
    · obtain ⟨o, ho, _⟩ := hl
      rw [List.mem_singleton.mp hb]; exact ⟨o, ho⟩
theorem srcRangeA {r : Addr} {n : Nat} {t u v : Tok} (hh : A.handled = none) (hr : IsRange s.heap r 0 (n : Int) 1 t u v) (hn : n ≤ 1000000) (J : Nat → List Value → List (Addr × Obj) → Prop) (hj : J 0 [] [])
    (turn : TurnC prog w A env elt tgt ifs scope cl s n (fun i v => ∃ t, v = .int (i : Int) t) J) (fin : FinA s n J P') :
    wpAny (model prog w) A (pyIter (.ref r)) (fun it s₂ => SrcA prog w A env elt tgt ifs scope cl s P' it s₂) E s := by
  have hsz : (Builtin.Range.rangeSize 0 (n : Int) 1) = n := by
    unfold Builtin.Range.rangeSize
    simp
    intro e; omega
  refine wpAny_pyIter_range hr ?hsm ?hgo
  case hsm =>
    have f : ∀ z : Int, -1 ≤ z → z ≤ 1000000 → Builtin.Range.rangeFitsLong z = true := fun z a b => by
      unfold Builtin.Range.rangeFitsLong
      simp; omega
    rw [Builtin.Range.small]
    simp only [hsz]
    rw [f 0 (by omega) (by omega), f n (by omega) (by omega), f 1 (by omega) (by omega), if_pos (by decide), f (n + (1 - 1)) (by omega) (by omega)]
    simp
  refine ⟨_, _, _, _, _, J, _, _, rfl, rfl, LCg.range_walks (I := s.heap.objs.size) hh 0 n, by rw [sizeLine_eq]; omega, ?_, fun i h st => ⟨_, st⟩, fun b o e => Heap.get?_push_of_some _ e, Nat.le_refl _, fun b hb => ?_, fun b hb hne => absurd (List.mem_singleton.mp hb) hne, hj, ?_, fin⟩
  · rw [hsz]
    have e1 : (0 : Int) + ((0 : Nat) : Int) * 1 = 0 := by omega
    have e2 : ((n : Int) - ((0 : Nat) : Int)) = n := by omega
    rw [e1, e2]
    exact Heap.get?_push_size _ rfl
  · rw [Heap.size_push, List.mem_singleton.mp hb]
    exact Nat.lt_succ_self _
  · intro i v ys nw own C h tk m E' hi hP
    obtain ⟨t, rfl⟩ := hP
    have e : (0 : Int) + (i : Int) = i := by omega
    rw [e]
    exact turn i _ ys nw own C h tk m E' hi ⟨t, rfl⟩
theorem srcStrA {x : Str} {tx : Tok} (hh : A.handled = none) (hsz : x.cps.size ≤ sizeLine) (J : Nat → List Value → List (Addr × Obj) → Prop) (hj : J 0 [] [])
    (turn : TurnC prog w A env elt tgt ifs scope cl s x.cps.size (SignAt x) J) (fin : FinA s x.cps.size J P') :
    wpAny (model prog w) A (pyIter (.str x tx)) (fun it s₂ => SrcA prog w A env elt tgt ifs scope cl s P' it s₂) E s := by
  have key : ∀ T : String, Walks prog w A s.heap.objs.size [s.heap.objs.size] [s.heap.objs.size] x.cps.size (SignAt x) (fun i h => h.IsStrIter s.heap.objs.size T x tx i) →
      (∃ o : Obj, (s.heap.push o).IsStrIter s.heap.objs.size T x tx 0 ∧ { s with heap := s.heap.push o } = { s with heap := s.heap.push { cls := .type T, data := .fields #[.str x tx, .int 0 0] } }) →
      SrcA prog w A env elt tgt ifs scope cl s P' (.ref s.heap.objs.size) { s with heap := s.heap.push { cls := .type T, data := .fields #[.str x tx, .int 0 0] } } := by
    rintro T W ⟨o, h0, e⟩
    rw [← e]
    refine ⟨_, _, _, _, _, J, _, _, rfl, rfl, W, hsz, h0, fun i h st => by obtain ⟨o, e, _⟩ := st; exact ⟨o, e⟩, fun b o e => Heap.get?_push_of_some _ e, Nat.le_refl _, fun b hb => ?_, fun b hb hne => absurd (List.mem_singleton.mp hb) hne, hj, turn, fin⟩
    rw [Heap.size_push, List.mem_singleton.mp hb]
    exact Nat.lt_succ_self _
  cases ha : x.cps.all (· < 128)
  · exact wpAny_pyIter_wide ha (key _ (Walks.strWide hh _ x tx) ⟨_, ⟨_, Heap.get?_push_size _ rfl, rfl, rfl⟩, rfl⟩)
  · exact wpAny_pyIter_ascii ha (key _ (Walks.strAscii hh _ x tx) ⟨_, ⟨_, Heap.get?_push_size _ rfl, rfl, rfl⟩, rfl⟩)
end
section
variable {prog : Program} {w : World} {A : Around} {E : Value → Shared → Prop} {s₁ : Shared} {g : Heap} {env : Env} {h₀ : Heap} {L : Addr} {m : Str → Option Value} {news : List (Addr × Obj)}
/-- the frame's ledger behind a comprehension's end, ahead of the store -/
theorem endFr {h : Heap} {D C : Addr} {ys : List Value} {nw : List (Addr × Obj)} (F : Fr h₀ L g m) (N : News h₀ L g news) (k : ∀ b o, g.get? b = some o → h.get? b = some o) (hD₀ : g.get? D = none) (hC₀ : g.get? C = none) (hD : h.get? D = some (lst ys)) (hDC : D ≠ C)
    (hnw : ∀ p ∈ nw, h.get? p.1 = some p.2 ∧ g.get? p.1 = none ∧ p.1 ≠ D ∧ p.1 ≠ C) : Fr h₀ L h m ∧ News h₀ L h ((D, lst ys) :: (nw ++ news)) ∧ C ≠ L ∧ h₀.get? C = none ∧ ∀ p ∈ (D, lst ys) :: (nw ++ news), p.1 ≠ C := by
  obtain ⟨oL, es, ep, hL, r⟩ := F.ns
  have f0 : ∀ b, g.get? b = none → b ≠ L ∧ h₀.get? b = none := by
    intro b hb
    constructor
    · intro e
      rw [e, hL] at hb; cases hb
    · cases e : h₀.get? b with
      | none => rfl
      | some o => rw [F.keep b o e] at hb; cases hb
  refine ⟨F.keeps k, fun p hp => ?_, (f0 C hC₀).1, (f0 C hC₀).2, fun p hp => ?_⟩
  · rcases List.mem_cons.mp hp with rfl | hp
    · exact ⟨hD, f0 D hD₀⟩
    · rcases List.mem_append.mp hp with hp | hp
      · exact ⟨(hnw p hp).1, f0 _ (hnw p hp).2.1⟩
      · exact ⟨k _ _ (N p hp).1, (N p hp).2⟩
  · rcases List.mem_cons.mp hp with rfl | hp
    · exact hDC
    · rcases List.mem_append.mp hp with hp | hp
      · exact (hnw p hp).2.2.2
      · exact fun e => by have := (N p hp).1; rw [e, hC₀] at this; cases this
/-- bound to a local name -/
theorem bindLocal {h : Heap} {tk : Nat} {D C : Addr} {ys : List Value} {nw : List (Addr × Obj)} {y : Str} {py : Pos} {m' : Str → Option Value} {Q : Flow → Shared → Prop} (F : Fr h₀ L g m) (N : News h₀ L g news) (k : ∀ b o, g.get? b = some o → h.get? b = some o) (hD₀ : g.get? D = none) (hC₀ : g.get? C = none) (hD : h.get? D = some (lst ys)) (hn : h.Ns C m') (hDC : D ≠ C)
    (hnw : ∀ p ∈ nw, h.get? p.1 = some p.2 ∧ g.get? p.1 = none ∧ p.1 ≠ D ∧ p.1 ≠ C) (hLe : env.locals = L) (hy : env.kindOf y = some .local) (hp : (env.scope.kind == .class || (env.scope.kind == .module && env.locals != env.globals)) = false)
    (fin : ∀ h' tk', Fr h₀ L h' (fun z => if z = y then some (.ref D) else m z) → News h₀ L h' ((D, lst ys) :: (nw ++ news)) → Q .next { s₁ with heap := h', toks := tk' }) :
    wpAny (model prog w) A (assign (.Name y py) env (.ref D)) (fun _ s₄ => BindPost Q C s₄) E { s₁ with heap := h, toks := tk } := by
  subst hLe
  obtain ⟨F', N', hCL, hC0, hoff⟩ := endFr F N k hD₀ hC₀ hD hDC hnw
  refine wpAny_assign_Name (wpAny_storeName_local hy F'.ns (fun h₂ hn₂ hs₂ => ?_) hp)
  have F₂ := F'.set hn₂ hs₂
  have N₂ := News.set N' hs₂
  refine ⟨m', hn.sameBut hs₂ hCL, fun h'' hs'' => fin h'' _ (F₂.change hs'' hCL hC0) fun p hp => ?_⟩
  exact ⟨hs''.extBut _ _ (hoff p hp) (N₂ p hp).1, (N₂ p hp).2⟩
/-- bound to a cell -/
theorem bindCell {h : Heap} {tk : Nat} {D C c : Addr} {oc : Obj} {v₀ : Option Value} {own rest : List (Addr × Obj)} {ys : List Value} {nw : List (Addr × Obj)} {y : Str} {py : Pos} {m' : Str → Option Value} {Q : Flow → Shared → Prop} (F : Fr h₀ L g m) (N : News h₀ L g (own ++ (c, oc) :: rest)) (k : ∀ b o, g.get? b = some o → h.get? b = some o) (hD₀ : g.get? D = none) (hC₀ : g.get? C = none) (hD : h.get? D = some (lst ys)) (hn : h.Ns C m') (hDC : D ≠ C)
    (hnw : ∀ p ∈ nw, h.get? p.1 = some p.2 ∧ g.get? p.1 = none ∧ p.1 ≠ D ∧ p.1 ≠ C) (hk : env.scope.kind = .function) (hl : env.kindOf y = some .cell) (hc : env.cells.lookup y = some c) (hd : oc.data = .cell v₀) (h1 : ∀ p ∈ own, p.1 ≠ c) (h2 : ∀ p ∈ rest, p.1 ≠ c)
    (fin : ∀ h' tk' oc', oc'.data = .cell (some (.ref D)) → Fr h₀ L h' m → News h₀ L h' ((D, lst ys) :: (nw ++ (own ++ (c, oc') :: rest))) → Q .next { s₁ with heap := h', toks := tk' }) :
    wpAny (model prog w) A (assign (.Name y py) env (.ref D)) (fun _ s₄ => BindPost Q C s₄) E { s₁ with heap := h, toks := tk } := by
  obtain ⟨F', N', hCL, hC0, hoff⟩ := endFr F N k hD₀ hC₀ hD hDC hnw
  have hcs : g.get? c = some oc := (N _ (List.mem_append_right _ (.head _))).1
  have hcm := N' (c, oc) (.tail _ (List.mem_append_right _ (List.mem_append_right _ (.head _))))
  have hcC : c ≠ C := hoff (c, oc) (.tail _ (List.mem_append_right _ (List.mem_append_right _ (.head _))))
  have hcD : D ≠ c := fun e => by rw [e, hcs] at hD₀; cases hD₀
  have hcn : ∀ p ∈ nw, p.1 ≠ c := fun p hp e => by have := (hnw p hp).2.1; rw [e, hcs] at this; cases this
  refine wpAny_assign_Name (wpAny_storeName_cell hk hl hc ⟨oc, hcm.1, hd⟩ fun h₂ hv hs₂ => ?_)
  obtain ⟨oc', ho', hd'⟩ := hv
  have F₂ : Fr h₀ L h₂ m := F'.change hs₂ hcm.2.1 hcm.2.2
  have N₂ : News h₀ L h₂ (((D, lst ys) :: (nw ++ own)) ++ (c, oc') :: rest) := News.setAt (o := oc) (fun p hp => N' p (by simpa using hp)) (fun p hp => by
    rcases List.mem_cons.mp hp with rfl | hp
    · exact hcD
    · rcases List.mem_append.mp hp with hp | hp
      · exact hcn p hp
      · exact h1 p hp) h2 hs₂ ho'
  refine ⟨m', hn.sameBut hs₂ (Ne.symm hcC), fun h'' hs'' => fin h'' _ oc' hd' (F₂.change hs'' hCL hC0) fun p hp => ?_⟩
  have z := N₂ p (by simpa using hp)
  refine ⟨hs''.extBut _ _ ?_ z.1, z.2⟩
  simp only [List.mem_cons, List.mem_append] at hp
  rcases hp with e | e | e | e | e
  · rw [e]; exact hDC
  · exact (hnw p e).2.2.2
  · exact hoff p (by simp [e])
  · rw [e]; exact hcC
  · exact hoff p (by simp [e])
end
end Mine
end

section
open PySem PySem.W PySem.Calls PyProof.Rows LCp
namespace Mine
/-- a turn whose target is a tuple of names, without tests -/
def TurnP (prog : Program) (w : World) (A : Around) (env : Env) (elt tgt : Expr) (scope : Scope) (cl : List (Str × Addr)) (s₁ : Shared) (n : Nat) (P : Nat → Value → Prop) (J : Nat → List Value → List (Addr × Obj) → Prop) : Prop :=
  ∀ i v ys nw own C h tk m (E' : Value → Shared → Prop), i < n → P i v → J i ys nw → (∀ p ∈ nw, ∀ q ∈ own, p.1 ≠ q.1) → Fr s₁.heap C h m → News s₁.heap C h (nw ++ own) →
    wpAny (model prog w) A (assign tgt (compEnvC scope cl C env) v) (fun _ s₂ => wpAny (model prog w) A (eval elt (compEnvC scope cl C env)) (fun y s₄ => EndC s₁ C own J (i + 1) (ys ++ [y]) s₄) E' s₂) E' { s₁ with heap := h, toks := tk }
def SrcP (prog : Program) (w : World) (A : Around) (env : Env) (elt tgt : Expr) (scope : Scope) (cl : List (Str × Addr)) (s₁ : Shared) (Q : Value → Shared → Prop) (it : Value) (s₂ : Shared) : Prop :=
  ∃ I fp n P St J hI tkI, it = .ref I ∧ s₂ = { s₁ with heap := hI, toks := tkI } ∧ Walks prog w A I fp [I] n P St ∧ n ≤ sizeLine ∧ St 0 hI ∧ (∀ i h, St i h → ∃ o, h.get? I = some o) ∧ (∀ b o, s₁.heap.get? b = some o → hI.get? b = some o) ∧ s₁.heap.objs.size ≤ I ∧ (∀ b ∈ fp, b < hI.objs.size) ∧
    (∀ b ∈ fp, b ≠ I → ∃ o, s₁.heap.get? b = some o) ∧ J 0 [] [] ∧ (∀ i h, St i h → ∃ l j, h.IsListIter I l j) ∧ (∀ i v, P i v → ∃ T, v = .ref T) ∧ TurnP prog w A env elt tgt scope cl s₁ n P J ∧ FinC s₁ n J Q
section
variable {prog : Program} {w : World} {A : Around} {E : Value → Shared → Prop} {s : Shared} {env : Env}
theorem blockP {elt iter : Expr} {elts : List Expr} {x1} {tp : Pos} {scope : Scope} {cl : List (Str × Addr)} {pos : Pos} {s₁ : Shared} {I : Addr} {fp : List Addr} {n : Nat} {P : Nat → Value → Prop} {St : Nat → Heap → Prop} {J : Nat → List Value → List (Addr × Obj) → Prop} {hI : Heap} {tkI : Nat}
    {RR : Value → Addr → Result → Shared → Prop}
    (W : Walks prog w A I fp [I] n P St) (hsz : n ≤ sizeLine) (hst : St 0 hI) (hIo : ∀ i h, St i h → ∃ o, h.get? I = some o) (kI : ∀ b o, s₁.heap.get? b = some o → hI.get? b = some o) (hIn : s₁.heap.objs.size ≤ I) (hfp : ∀ b ∈ fp, b < hI.objs.size)
    (hfb : ∀ b ∈ fp, b ≠ I → ∃ o, s₁.heap.get? b = some o) (hj : J 0 [] []) (hLI : ∀ i h, St i h → ∃ l j, h.IsListIter I l j) (hPT : ∀ i v, P i v → ∃ T, v = .ref T) (turn : TurnP prog w A env elt (.Tuple elts x1 tp) scope cl s₁ n P J)
    (hcell : ∀ y ∈ scope.names, y.2 ≠ .cell) (hkind : scope.kind = .function)
    (hRR : ∀ D C ys nw h tk m', J n ys nw → ys.length ≤ n → (∀ b o, s₁.heap.get? b = some o → h.get? b = some o) → s₁.heap.get? D = none → s₁.heap.get? C = none → h.get? D = some (lst ys) → h.Ns C m' → D ≠ C → (∀ p ∈ nw, h.get? p.1 = some p.2 ∧ s₁.heap.get? p.1 = none ∧ p.1 ≠ D ∧ p.1 ≠ C) → RR (.ref D) C (.ok .next) { s₁ with heap := h, toks := tk }) :
    wpAny (model prog w) A (newList []) (fun acc s₃ => wpAny (model prog w) A (newFunctionEnv scope env.globals cl [] env.qual none .none (some env)) (fun cenv s₄ =>
      codeAny (model prog w) A (.compStart (.ListComp elt [⟨.Tuple elts x1 tp, iter, [], 0⟩] scope pos) 0 (.ref I) acc { cenv with scope := relabel scope env }) (RR acc cenv.locals) s₄) E s₃) E { s₁ with heap := hI, toks := tkI } := by
  refine wpAny_newObj_type (wpAny_newFunctionEnv hcell (by intro y hy; simp at hy) (fun h₁ hns₁ hsb₁ => ?_) hkind)
  dsimp only at hns₁ hsb₁ ⊢
  generalize hH2 : hI.push { cls := .type "list", dict := none, data := .seq ([] : List Value).toArray } = H2 at hns₁ hsb₁ ⊢
  have hC : H2.objs.size = hI.objs.size + 1 := by rw [← hH2, Heap.size_push]
  have hDC : hI.objs.size ≠ H2.objs.size := by rw [hC]; exact Nat.ne_of_lt (Nat.lt_succ_self _)
  have below : ∀ b, b < hI.objs.size → b ≠ H2.objs.size ∧ b ≠ hI.objs.size := fun b hb => ⟨by rw [hC]; exact Nat.ne_of_lt (Nat.lt_succ_of_lt hb), Nat.ne_of_lt hb⟩
  have hDf : hI.objs.size ∉ fp := fun hm => Nat.lt_irrefl _ (hfp _ hm)
  have hCf : H2.objs.size ∉ fp := fun hm => by have := hfp _ hm; rw [hC] at this; exact Nat.lt_irrefl _ (Nat.lt_of_succ_lt this)
  have hIf : I ∈ fp := W.sub I (List.mem_singleton.mpr rfl)
  have hIlt : I < hI.objs.size := hfp I hIf
  have old : ∀ b o, hI.get? b = some o → h₁.get? b = some o := fun b o e => hsb₁.extBut b o (below b (Heap.lt_size e)).1 (Heap.get?_push_of_some _ (hH2 ▸ Heap.get?_push_of_some _ e))
  have hacc : h₁.get? hI.objs.size = some (lst []) := hsb₁.extBut _ _ hDC (Heap.get?_push_of_some _ (hH2 ▸ Heap.get?_push_size _ rfl))
  have hst₁ : St 0 h₁ := W.frame _ _ _ hst fun b _ o e => old b o e
  have hDb : s₁.heap.objs.size ≤ hI.objs.size := Nat.le_of_lt (Nat.lt_of_le_of_lt hIn hIlt)
  have hCb : s₁.heap.objs.size ≤ H2.objs.size := by rw [hC]; exact Nat.le_succ_of_le hDb
  have hD₀ : s₁.heap.get? hI.objs.size = none := getNone hDb
  have hC₀ : s₁.heap.get? H2.objs.size = none := getNone hCb
  have hI₀ : s₁.heap.get? I = none := getNone hIn
  have hCI : I ≠ H2.objs.size := (below I hIlt).1
  have hDI : I ≠ hI.objs.size := (below I hIlt).2
  have loop : ∀ s₃ : Shared, s₃ = { s₁ with heap := h₁, toks := tkI + ([] : List (Str × Value)).length } →
      codeAny (model prog w) A (.compLoop (.ListComp elt [⟨.Tuple elts x1 tp, iter, [], 0⟩] scope pos) 0 (.ref I) (.ref hI.objs.size) (compEnvC scope cl H2.objs.size env))
        (RR (.ref hI.objs.size) H2.objs.size) s₃ := by
    rintro s₃ rfl
    refine codeAny_compLoop_pair
      (fun k s' => ∃ h' tk i ys m' nw, s' = { s₁ with heap := h', toks := tk } ∧ i ≤ n ∧ k = n + 1 - i ∧ ys.length ≤ i ∧ St i h' ∧ Fr s₁.heap H2.objs.size h' m' ∧ News s₁.heap H2.objs.size h' (nw ++ [(hI.objs.size, lst ys)]) ∧
        (∀ p ∈ nw, p.1 ≠ I ∧ p.1 ≠ hI.objs.size) ∧ J i ys nw) ?_ (n + 1)
      ⟨h₁, _, 0, [], _, [], rfl, Nat.zero_le _, rfl, Nat.le_refl _, hst₁, ⟨hns₁, fun b o e => old b o (kI b o e), hCb⟩, fun p hp => ?_, fun p hp => (nomatch hp), hj⟩
    · rintro k s' ⟨h', tk, i, ys, m', nw, rfl, hi, rfl, hyl, hst', F', N', off', hJ⟩
      by_cases hlt : i < n
      · refine W.item i _ _ _ hlt hst' fun v h₂ tk₂ hPv hst₂ hk₂ => ?_
        obtain ⟨oI, heI⟩ := hIo _ _ hst₂
        have F₂ : Fr s₁.heap H2.objs.size h₂ m' := ⟨F'.ns.at' fun o e => hk₂ _ o (by simpa using Ne.symm hCI) e, fun b o e => hk₂ b o (fun hm => by rw [List.mem_singleton.mp hm, hI₀] at e; cases e) (F'.keep b o e), F'.above⟩
        have N₂ : News s₁.heap H2.objs.size h₂ (nw ++ [(I, oI), (hI.objs.size, lst ys)]) := fun p hp => by
          rcases List.mem_append.mp hp with hp | hp
          · have z := N' p (List.mem_append_left _ hp)
            exact ⟨hk₂ _ _ (by simpa using (off' p hp).1) z.1, z.2⟩
          · rcases List.mem_cons.mp hp with rfl | hp
            · exact ⟨heI, hCI, hI₀⟩
            · have z := N' p (List.mem_append_right _ hp)
              refine ⟨hk₂ _ _ ?_ z.1, z.2⟩
              rw [List.mem_singleton.mp hp]
              simpa using Ne.symm hDI
        have offq : ∀ p ∈ nw, ∀ q ∈ [(I, oI), (hI.objs.size, lst ys)], p.1 ≠ q.1 := fun p hp q hq => by
          rcases List.mem_cons.mp hq with rfl | hq
          · exact (off' p hp).1
          · rw [List.mem_singleton.mp hq]; exact (off' p hp).2
        obtain ⟨T, rfl⟩ := hPT i v hPv
        obtain ⟨lI, jI, hLi⟩ := hLI _ _ hst₂
        refine wpAny_letOwnedTupleGo_listiter hLi ?_
        refine wpAny_mono (turn i (.ref T) ys nw [(I, oI), (hI.objs.size, lst ys)] H2.objs.size h₂ tk₂ m' _ hlt hPv hJ offq F₂ N₂) (fun _ s₅ h₅ => wpAny_mono h₅ (fun y s₇ h₇ => ?_) fun _ _ e => e) fun _ _ e => e
        have fin : ∀ s₇ ys', EndC s₁ H2.objs.size [(I, oI), (hI.objs.size, lst ys)] J (i + 1) ys' s₇ → ∃ h₄ tk₄ m₄ nw₄, s₇ = { s₁ with heap := h₄, toks := tk₄ } ∧ St (i + 1) h₄ ∧ Fr s₁.heap H2.objs.size h₄ m₄ ∧ News s₁.heap H2.objs.size h₄ (nw₄ ++ [(hI.objs.size, lst ys)]) ∧ (∀ p ∈ nw₄, p.1 ≠ I ∧ p.1 ≠ hI.objs.size) ∧ J (i + 1) ys' nw₄ := by
          rintro s₇ ys' ⟨h₄, tk₄, m₄, nw₄, rfl, F₄, N₄, off₄, J₄⟩
          refine ⟨h₄, tk₄, m₄, nw₄, rfl, W.frame _ _ _ hst₂ fun b hb o e => ?_, F₄, fun p hp => N₄ p ?_, fun p hp => ⟨off₄ p hp (I, oI) (.head _), off₄ p hp (hI.objs.size, lst ys) (.tail _ (.head _))⟩, J₄⟩
          · by_cases hbI : b = I
            · subst hbI
              rw [heI] at e; cases e
              exact (N₄ (b, oI) (List.mem_append_right _ (.head _))).1
            · obtain ⟨o', e'⟩ := hfb b hb hbI
              have := F₂.keep b o' e'
              rw [this] at e; cases e
              exact F₄.keep b o e'
          · rcases List.mem_append.mp hp with hp | hp
            · exact List.mem_append_left _ hp
            · exact List.mem_append_right _ (.tail _ hp)
        obtain ⟨h₄, tk₄, m₄, nw₄, rfl, hst₄, F₄, N₄, off₄, J₄⟩ := fin _ _ h₇
        have zD := (N₄ (hI.objs.size, lst ys) (List.mem_append_right _ (.head _))).1
        refine append_at (hsz := by show ys.toArray.size ≤ sizeLine; rw [List.size_toArray]; omega) zD fun h₅ hs₅ hD₅ => ?_
        refine ⟨n + 1 - (i + 1), by omega, h₅, tk₄, i + 1, ys ++ [y], m₄, nw₄, rfl, hlt, rfl, by rw [List.length_append, List.length_singleton]; omega, W.frame _ _ _ hst₄ fun b hb o e => hs₅.extBut b o (fun q => hDf (q ▸ hb)) e, F₄.change hs₅ hDC hD₀, fun p hp => ?_, off₄, J₄⟩
        rcases List.mem_append.mp hp with hp | hp
        · have z := N₄ p (List.mem_append_left _ hp)
          exact ⟨hs₅.extBut _ _ (off₄ p hp).2 z.1, z.2⟩
        · rw [List.mem_singleton.mp hp]
          exact ⟨hD₅.trans (congrArg some (by rw [List.push_toArray]; show _ = lst (ys ++ [y]); simp [lst])), hDC, hD₀⟩
      · obtain rfl : i = n := Nat.le_antisymm hi (Nat.not_lt.mp hlt)
        refine W.done _ _ _ hst' fun h₂ tk₂ hk₂ => ?_
        have zD := (N' (hI.objs.size, lst ys) (List.mem_append_right _ (.head _))).1
        refine hRR _ _ ys nw h₂ tk₂ m' hJ hyl (fun b o e => hk₂ b o (fun hm => by rw [List.mem_singleton.mp hm, hI₀] at e; cases e) (F'.keep b o e)) hD₀ hC₀ (hk₂ _ _ (by simpa using Ne.symm hDI) zD) (F'.ns.at' fun o e => hk₂ _ o (by simpa using Ne.symm hCI) e) hDC fun p hp => ?_
        have z := N' p (List.mem_append_left _ hp)
        exact ⟨hk₂ _ _ (by simpa using (off' p hp).1) z.1, z.2.2, (off' p hp).2, z.2.1⟩
    · rw [List.mem_singleton.mp hp]
      exact ⟨hacc, hDC, hD₀⟩
  exact codeAny_compStart_list (loop _ rfl) (W.self 0 _ _ _ hst₁ (loop _ rfl))

theorem compP {elt iter : Expr} {elts : List Expr} {x1} {tp : Pos} {scope : Scope} {cl : List (Str × Addr)} {pos : Pos} {Q : Value → Shared → Prop}
    (hclos : closureFor scope env = pure cl) (hcell : ∀ y ∈ scope.names, y.2 ≠ .cell) (hkind : scope.kind = .function)
    (hnames : ∀ y ∈ scope.names, y.2 = .local → scope.names.lookup y.1 = some .local)
    (h : wpAny (model prog w) A (eval iter env) (fun xv s₁ => wpAny (model prog w) A (pyIter xv) (fun it s₂ => SrcP prog w A env elt (.Tuple elts x1 tp) scope cl s₁ Q it s₂) E s₁) E s)
    (hs : ∀ x, foldedSetIterable iter env x = pure x := by intro _; rfl) :
    wpAny (model prog w) A (eval (.ListComp elt [⟨.Tuple elts x1 tp, iter, [], 0⟩] scope pos) env) Q E s := by
  rw [eval_ListComp]
  refine wpAny_comprehension_free (use := none) rfl hs hclos hkind hnames (wpAny_mono h (fun xv s₁ h₁ => wpAny_mono h₁ (fun it s₂ h₂ => ?_) fun _ _ e => e) fun _ _ e => e)
  obtain ⟨I, fp, n, P, St, J, hI, tkI, rfl, rfl, W, hsz, hst, hIo, kI, hIn, hfp, hfb, hj, hLI, hPT, turn, fin⟩ := h₂
  refine blockP (RR := fun acc C => compPost (model prog w) A E none Q acc C) W hsz hst hIo kI hIn hfp hfb hj hLI hPT turn hcell hkind ?_
  intro D C ys nw h tk m' hJ hyl k hD₀ hC₀ hD hn hDC hnw
  refine ⟨m', hn, fun h'' hs'' => fin D ys nw h'' tk hJ hyl (fun b o e => hs''.extBut b o (by rintro rfl; rw [hC₀] at e; cases e) (k b o e)) hD₀ (hs''.extBut _ _ hDC hD) fun p hp => ?_⟩
  have z := hnw p hp
  exact ⟨hs''.extBut _ _ z.2.2.2 z.1, z.2.1, z.2.2.1⟩
variable {elt tgt : Expr} {scope : Scope} {cl : List (Str × Addr)} {Q : Value → Shared → Prop}
theorem srcListP {l : Addr} {items : Array Value} (hh : A.handled = none) (hl : s.heap.IsList l items) (hsz : items.size ≤ sizeLine) (J : Nat → List Value → List (Addr × Obj) → Prop) (hj : J 0 [] []) (hit : ∀ (i : Nat) (v : Value), (items[i]? : Option Value) = some v → ∃ T, v = Value.ref T)
    (turn : TurnP prog w A env elt tgt scope cl s items.size (fun i v => items[i]? = some v) J) (fin : FinC s items.size J Q) :
    wpAny (model prog w) A (pyIter (.ref l)) (fun it s₂ => SrcP prog w A env elt tgt scope cl s Q it s₂) E s := by
  have hlt : l < s.heap.objs.size := by obtain ⟨o, ho, _⟩ := hl; exact Heap.lt_size ho
  refine wpAny_pyIter_list hl ?_
  refine ⟨_, _, _, _, _, J, _, _, rfl, rfl, Walks.list hh s.heap.objs.size l (Nat.ne_of_lt hlt) items, hsz, ⟨⟨_, Heap.get?_push_size _ rfl, rfl, rfl⟩, ?_⟩, fun i h st => by obtain ⟨o, e, _⟩ := st.1; exact ⟨o, e⟩, fun b o e => Heap.get?_push_of_some _ e, Nat.le_refl _, fun b hb => ?_, fun b hb hne => ?_, hj, fun i h st => ⟨_, _, st.1⟩, hit, turn, fin⟩
  · obtain ⟨o, ho, r⟩ := hl
    exact ⟨o, Heap.get?_push_of_some _ ho, r⟩
  · rw [Heap.size_push]
    rcases List.mem_cons.mp hb with rfl | hb
    · exact Nat.lt_succ_self _
    · rw [List.mem_singleton.mp hb]; exact Nat.lt_succ_of_lt hlt
  · rcases List.mem_cons.mp hb with rfl | hb
    · exact absurd rfl hne
    · obtain ⟨o, ho, _⟩ := hl
      rw [List.mem_singleton.mp hb]; exact ⟨o, ho⟩
end
end Mine
end

section
open PySem PySem.W PySem.Calls PyProof.Rows PySem.SeqAt
namespace Mine
theorem bytesOfB {prog : Program} {w : World} {A : Around} {s : Shared} {E Q : Value → Shared → Prop} {h₀ : Heap} {L l : Addr} {va : Array Value} {k : Nat} {rest : List (Addr × Obj)} {out : List Int} (N : News h₀ L s.heap ((l, W.listOf va k) :: rest)) (hi : IntsAre va.toList out) (hr : InR out) (hz : out.length ≤ 1000)
    (hh : A.handled = none) (h : ∀ h' tk t' b, KBw.bInts b = out → (∀ b o, s.heap.get? b = some o → h'.get? b = some o) → Q (.bytes b t') { s with heap := h', toks := tk }) : wpAny (model prog w) A (call (.type "bytes") [.ref l]) Q E s :=
  bytesOf N hi hr (by rw [← Array.length_toList, hi.length]; omega) hh fun h' tk t' k => h h' tk t' _ (KBa.ints_make hr) k
theorem byteArr_bInts (b : Array UInt8) : byteArr (KBw.bInts b) = b := by
  apply Array.toList_inj.mp
  unfold byteArr KBw.bInts
  rw [List.map_map]
  refine (List.map_congr_left fun c hc => ?_).trans (List.map_id _)
  show UInt8.ofNat ((c.toNat : Int).toNat) = c
  rw [Int.toNat_natCast]
  exact UInt8.ofNat_toNat
theorem mkS_of (x : Str) : Tx.mkS x.cps.toList = x := by cases x; simp
theorem strsSnoc {vs : List Value} {ns : List Str} (h : StrsAre vs ns) (n : Str) (t : Tok) : StrsAre (vs ++ [.str n t]) (ns ++ [n]) := by
  induction h with
  | nil => exact .cons n t .nil
  | cons a u _ ih => exact .cons a u ih
theorem sumLen : ∀ (zs : List Str), (∀ z ∈ zs, z ∈ SIGNS) → (zs.map (·.length)).sum + zs.length ≤ 3 * zs.length
  | [], _ => by simp
  | x :: r, h => by
    have ih := sumLen r fun z hz => h z (.tail _ hz)
    have : x.length ≤ 2 := (signs_ok x (h x (.head _))).1
    simp only [List.map_cons, List.sum_cons, List.length_cons]; omega
def RowsAre (tups : List (Addr × Obj)) : Prop := ∀ p ∈ tups, p.2.cls = .type "tuple"
def ItemsIn (tups : List (Addr × Obj)) (i0 : Array Value) (a0 : List Att) : Prop := i0.size = a0.length ∧ ∀ j (hj : j < a0.length), ∃ t ta tb, i0[j]? = some (.ref t) ∧ (t, RowObj (Tx.mkS a0[j].1) (byteArr a0[j].2) ta tb) ∈ tups
def NameOk (x : List Nat) : Prop := (∀ c ∈ x, c ≠ 10 ∧ c ≠ 13 ∧ c ≠ 58) ∧ x.length ≤ 100
def AttOk (x : Att) : Prop := NameOk x.1 ∧ InR x.2 ∧ x.2.length ≤ 100
def MailOk (a : List Att) : Prop := a.Nodup ∧ ∀ x ∈ a, AttOk x
inductive MJ (lm m0 m1 ls c : Addr) (oc : Obj) (sv : Array Value) (own : List (Addr × Obj)) (bd : Nat) (m : Str → Option Value) (nw : List (Addr × Obj)) : Prop where
  | intro (em : m (Str.ofString "mails") = some (.ref lm)) (i0 : Array Value) (k0 : Nat) (i1 : Array Value) (k1 : Nat) (a0 a1 : List Att) (tups : List (Addr × Obj)) (h1 : nw = (lm, W.listOf #[.ref m0, .ref m1] 0) :: (m1, W.listOf i1 k1) :: (m0, W.listOf i0 k0) :: (ls, W.listOf sv 0) :: (c, oc) :: (tups ++ own)) (h2 : RowsAre tups) (h3 : ItemsIn tups i0 a0) (h4 : ItemsIn tups i1 a1) (h5 : MailOk a0) (h6 : MailOk a1) (h7 : a0.length ≤ bd) (h8 : a1.length ≤ bd) : MJ lm m0 m1 ls c oc sv own bd m nw
theorem attAt_inj {h : Heap} {v : Value} {x y : Att} (hx : AttAt h v x) (hy : AttAt h v y) (rx : InR x.2) (ry : InR y.2) : x = y := by
  obtain ⟨t, ta, tb, rfl, o, ho, _, n, hd⟩ := hx
  obtain ⟨t', ta', tb', e, o', ho', _, n', hd'⟩ := hy
  cases e
  cases ho.symm.trans ho'
  rw [hd] at hd'
  injection hd' with e1 e2
  have e3 := congrArg Array.toList e1
  injection e3 with e4 e5
  injection e5 with e6 e7
  injection e4 with e8 _
  injection e6 with e9 _
  have h1 := mkS_inj (a := x.1) (b := y.1)
  have h2 := byteArr_inj rx ry
  rw [e8] at h1
  rw [e9] at h2
  exact Prod.ext (by simpa using h1) (by simpa using h2)
theorem attOfRow {h : Heap} {t : Addr} {x : Att} {ta tb : Tok} (ho : h.get? t = some (RowObj (Tx.mkS x.1) (byteArr x.2) ta tb)) : AttAt h (.ref t) x := ⟨t, ta, tb, rfl, _, ho, rfl, _, rfl⟩
open Classical in
/-- (name, octets) not in a mail -/
theorem notInMail {prog : Program} {w : World} {A : Around} {s : Shared} {E Q : Value → Shared → Prop} {l : Addr} {q : Value} {i0 : Array Value} {a0 : List Att} {x : Att} (hl : s.heap.IsList l i0) (hq : AttAt s.heap q x) (hsz : i0.size = a0.length)
    (hi : ∀ j (hj : j < a0.length), ∃ v, i0[j]? = some v ∧ AttAt s.heap v a0[j]) (hok : ∀ y ∈ a0, InR y.2) (hx : InR x.2) (hu : A.units + 1 < cLine) (h : Q (.bool (decide (x ∉ a0))) s) :
    wpAny (model prog w) A (compareOp .NotIn q (.ref l)) Q E s := by
  have he : ∀ y, y ∈ i0 → EqAt A.in1 s y q (decide (AttAt s.heap y x)) := by
    intro y hy
    obtain ⟨j, hj, rfl⟩ := Array.mem_iff_getElem.mp hy
    obtain ⟨v, hv, hA⟩ := hi j (by omega)
    have e : i0[j] = v := by rw [Array.getElem?_eq_getElem hj] at hv; exact Option.some.inj hv
    rw [e]
    have hr := hok _ (List.getElem_mem (show j < a0.length by omega))
    have := eqAt_att (A := A.in1) hA hq hr hx hu
    have e2 : decide (AttAt s.heap v x) = decide (a0[j]'(by omega) = x) := by
      by_cases h2 : a0[j]'(by omega) = x
      · rw [decide_eq_true h2, decide_eq_true (h2 ▸ hA)]
      · rw [decide_eq_false h2, decide_eq_false (fun h3 => h2 (attAt_inj hA h3 hr hx))]
    rw [e2]; exact this
  refine notIn_listAt _ hl he ?_
  have e : (!i0.any fun y => decide (AttAt s.heap y x)) = decide (x ∉ a0) := by
    by_cases hm : x ∈ a0
    · rw [decide_eq_false (fun z => z hm)]
      obtain ⟨j, hj, rfl⟩ := List.mem_iff_getElem.mp hm
      obtain ⟨v, hv, hA⟩ := hi j hj
      have : (i0.any fun y => decide (AttAt s.heap y a0[j])) = true := by
        rw [Array.any_eq_true]
        obtain ⟨hj2, e⟩ := Array.getElem?_eq_some_iff.mp hv
        exact ⟨j, hj2, by rw [e]; exact decide_eq_true hA⟩
      rw [this]; rfl
    · rw [decide_eq_true hm]
      have : (i0.any fun y => decide (AttAt s.heap y x)) = false := by
        rw [Array.any_eq_false]
        intro j hj hd
        obtain ⟨v, hv, hA⟩ := hi j (by omega)
        have e : i0[j] = v := by rw [Array.getElem?_eq_getElem hj] at hv; exact Option.some.inj hv
        have h3 := of_decide_eq_true hd
        rw [e] at h3
        have := attAt_inj hA h3 (hok _ (List.getElem_mem (show j < a0.length by omega))) hx
        exact hm (this ▸ List.getElem_mem _)
      rw [this]; rfl
  rw [e]; exact h
theorem intAt : ∀ {vs : List Value} {ns : List Int} {i : Nat} {v : Value}, IntsAre vs ns → vs[i]? = some v → ∃ n t, ns[i]? = some n ∧ v = .int n t
  | _, _, 0, v, .cons n t _, e => ⟨n, t, rfl, by simpa using e.symm⟩
  | _, _, i + 1, v, .cons n t r, e => by
    obtain ⟨n', t', e1, e2⟩ := intAt r (i := i) (by simpa using e)
    exact ⟨n', t', by simpa using e1, e2⟩
  | _, _, _, _, .nil, e => by simp at e
theorem itemMenu3 {prog : Program} {w : World} {A : Around} {s : Shared} {E Q : Value → Shared → Prop} {value slice : Expr} {l a b c : Addr} {k : Int} {u : Tok} (hl : s.heap.IsList l #[.ref a, .ref b, .ref c]) (h : ∀ r, r = a ∨ r = b ∨ r = c → Q (.ref r) s)
    (hs : ∀ z, subscripted slice false (.ref l) (.int z u) = operate [.ref l, .int z u] (getItem (.ref l) (.int z u)) := by intro _; with_unfolding_all rfl) (hg : ∀ r, letTemporaryGo value (.ref l) r = pure () := by intro _; with_unfolding_all rfl) :
    wpAny (model prog w) A (subscriptTail value slice (.ref l) (.int (k.fmod 3) u)) Q E s := by
  have : k.fmod 3 = 0 ∨ k.fmod 3 = 1 ∨ k.fmod 3 = 2 := by rw [Int.fmod_eq_emod_of_nonneg _ (by decide)]; omega
  rcases this with e | e | e <;> rw [e]
  · exact item_list hl (by decide) (by decide) rfl (h _ (.inl rfl)) (hs _) hg
  · exact item_list hl (by decide) (by decide) rfl (h _ (.inr (.inl rfl))) (hs _) hg
  · exact item_list hl (by decide) (by decide) rfl (h _ (.inr (.inr rfl))) (hs _) hg
theorem itemA {prog : Program} {w : World} {A : Around} {s : Shared} {E Q : Value → Shared → Prop} {value slice : Expr} {l : Addr} {a b : Value} {u : Tok} (hl : s.heap.IsList l #[a, b]) (h : Q a s)
    (hs : subscripted slice false (.ref l) (.int 0 u) = operate [.ref l, .int 0 u] (getItem (.ref l) (.int 0 u)) := by with_unfolding_all rfl) (hg : ∀ r, letTemporaryGo value (.ref l) r = pure () := by intro _; with_unfolding_all rfl) :
    wpAny (model prog w) A (subscriptTail value slice (.ref l) (.int 0 u)) Q E s := item_list hl (by decide) (by decide) rfl h hs hg
theorem itemB {prog : Program} {w : World} {A : Around} {s : Shared} {E Q : Value → Shared → Prop} {value slice : Expr} {l : Addr} {a b : Value} {u : Tok} (hl : s.heap.IsList l #[a, b]) (h : Q b s)
    (hs : subscripted slice false (.ref l) (.int 1 u) = operate [.ref l, .int 1 u] (getItem (.ref l) (.int 1 u)) := by with_unfolding_all rfl) (hg : ∀ r, letTemporaryGo value (.ref l) r = pure () := by intro _; with_unfolding_all rfl) :
    wpAny (model prog w) A (subscriptTail value slice (.ref l) (.int 1 u)) Q E s := item_list hl (by decide) (by decide) rfl h hs hg
theorem itemsPush {tups : List (Addr × Obj)} {i0 : Array Value} {a0 : List Att} {x : Att} {t : Addr} {ta tb : Tok} (hi : ItemsIn tups i0 a0) : ItemsIn ((t, RowObj (Tx.mkS x.1) (byteArr x.2) ta tb) :: tups) (i0.push (.ref t)) (a0 ++ [x]) := by
  refine ⟨by rw [Array.size_push, List.length_append, hi.1]; rfl, fun j hj => ?_⟩
  rw [List.length_append, List.length_singleton] at hj
  by_cases hlt : j < a0.length
  · obtain ⟨t', ta', tb', e, hm⟩ := hi.2 j hlt
    refine ⟨t', ta', tb', ?_, ?_⟩
    · rw [Array.getElem?_push_lt (by rw [hi.1]; exact hlt)] 
      rw [← e, Array.getElem?_eq_getElem (by rw [hi.1]; exact hlt)]
    · rw [List.getElem_append_left hlt]; exact .tail _ hm
  · have e : j = a0.length := by omega
    subst e
    refine ⟨t, ta, tb, ?_, ?_⟩
    · rw [← hi.1]; simp
    · rw [List.getElem_append_right (Nat.le_refl _)]; simp
theorem itemsMore {tups : List (Addr × Obj)} {i0 : Array Value} {a0 : List Att} {p : Addr × Obj} (hi : ItemsIn tups i0 a0) : ItemsIn (p :: tups) i0 a0 :=
  ⟨hi.1, fun j hj => let ⟨t, ta, tb, e, hm⟩ := hi.2 j hj; ⟨t, ta, tb, e, .tail _ hm⟩⟩
theorem mailSnoc {a : List Att} {x : Att} (h : MailOk a) (hx : AttOk x) (hn : x ∉ a) : MailOk (a ++ [x]) := by
  refine ⟨List.nodup_append.mpr ⟨h.1, by simp, fun y hy z hz e => ?_⟩, fun y hy => ?_⟩
  · rw [List.mem_singleton.mp hz] at e; exact hn (e ▸ hy)
  · rcases List.mem_append.mp hy with hy | hy
    · exact h.2 y hy
    · rw [List.mem_singleton.mp hy]; exact hx
theorem mail_start0 : MailOk [([46, 97], [0, 255]), ([98], [])] := by
  refine ⟨by decide, fun x hx => ?_⟩
  simp only [List.mem_cons, List.not_mem_nil, or_false] at hx
  rcases hx with rfl | rfl
  · exact ⟨⟨by decide, by decide⟩, by unfold InR; decide, by decide⟩
  · exact ⟨⟨by decide, by decide⟩, by unfold InR; decide, by decide⟩
theorem mail_start1 : MailOk [([46, 97], [0, 255]), ([46, 46], [97, 98, 99])] := by
  refine ⟨by decide, fun x hx => ?_⟩
  simp only [List.mem_cons, List.not_mem_nil, or_false] at hx
  rcases hx with rfl | rfl
  · exact ⟨⟨by decide, by decide⟩, by unfold InR; decide, by decide⟩
  · exact ⟨⟨by decide, by decide⟩, by unfold InR; decide, by decide⟩
end Mine
end

section
open PySem PySem.W PySem.Calls PyProof.Rows PySem.SeqAt
namespace Mine
/-- a list of texts in the heap -/
def SL (h : Heap) (v : Value) (ns : List Str) : Prop := ∃ a vs, v = .ref a ∧ h.IsList a vs.toArray ∧ StrsAre vs ns
/-- a list of texts among the new objects -/
def SN (nw : List (Addr × Obj)) (v : Value) (ns : List Str) : Prop := ∃ a o vs n, v = .ref a ∧ (a, o) ∈ nw ∧ o.cls = .type "list" ∧ o.data = .seq vs.toArray n ∧ StrsAre (vs : List Value) ns
/-- an attachment among the new objects -/
def AN (nw : List (Addr × Obj)) (v : Value) (x : Att) : Prop := ∃ t ta tb, v = .ref t ∧ (t, ({ cls := Value.type "tuple", data := Data.seq #[.str (Tx.mkS x.1) ta, .bytes (byteArr x.2) tb] } : Obj)) ∈ nw
/-- a list of attachments among the new objects -/
def MN (nw : List (Addr × Obj)) (v : Value) (xs : List Att) : Prop := ∃ a o vs n, v = .ref a ∧ (a, o) ∈ nw ∧ o.cls = .type "list" ∧ o.data = .seq (vs : List Value).toArray n ∧ vs.length = xs.length ∧ ∀ (j : Nat) (x : Value) (y : Att), vs[j]? = some x → xs[j]? = some y → AN nw x y
def JL (P : Nat → Value → List (Addr × Obj) → Prop) (i : Nat) (ys : List Value) (nw : List (Addr × Obj)) : Prop := ys.length = i ∧ ∀ j v, ys[j]? = some v → P j v nw
theorem JL.start {P : Nat → Value → List (Addr × Obj) → Prop} {nw : List (Addr × Obj)} : JL P 0 [] nw := ⟨rfl, fun j v h => by simp at h⟩
theorem JL.step {P : Nat → Value → List (Addr × Obj) → Prop} {i : Nat} {ys : List Value} {nw nw' : List (Addr × Obj)} {v : Value} (h : JL P i ys nw) (mono : ∀ j v, P j v nw → P j v nw') (hn : P i v nw') : JL P (i + 1) (ys ++ [v]) nw' := by
  obtain ⟨hl, hp⟩ := h
  refine ⟨by rw [List.length_append, List.length_singleton, hl], fun j x hx => ?_⟩
  rcases Nat.lt_or_ge j ys.length with hj | hj
  · rw [List.getElem?_append_left hj] at hx
    exact mono j x (hp j x hx)
  · rw [List.getElem?_append_right hj] at hx
    have hj0 : j - ys.length = 0 := by
      rcases hk : j - ys.length with _ | k
      · rfl
      · rw [hk] at hx; simp at hx
    rw [hj0] at hx
    have e : v = x := by simpa using hx
    subst e
    have : j = i := by omega
    rw [this]; exact hn
theorem SN.mono {nw nw' : List (Addr × Obj)} {v : Value} {ns : List Str} (h : SN nw v ns) (k : ∀ p ∈ nw, p ∈ nw') : SN nw' v ns := by
  obtain ⟨a, o, vs, n, e, hm, r⟩ := h
  exact ⟨a, o, vs, n, e, k _ hm, r⟩
theorem AN.mono {nw nw' : List (Addr × Obj)} {v : Value} {x : Att} (h : AN nw v x) (k : ∀ p ∈ nw, p ∈ nw') : AN nw' v x := by
  obtain ⟨t, ta, tb, e, hm⟩ := h
  exact ⟨t, ta, tb, e, k _ hm⟩
theorem MN.mono {nw nw' : List (Addr × Obj)} {v : Value} {xs : List Att} (h : MN nw v xs) (k : ∀ p ∈ nw, p ∈ nw') : MN nw' v xs := by
  obtain ⟨a, o, vs, n, e, hm, hc, hd, hl, r⟩ := h
  exact ⟨a, o, vs, n, e, k _ hm, hc, hd, hl, fun j x y hx hy => (r j x y hx hy).mono k⟩
theorem SN.at {nw : List (Addr × Obj)} {v : Value} {ns : List Str} {h : Heap} (x : SN nw v ns) (k : ∀ p ∈ nw, h.get? p.1 = some p.2) : SL h v ns := by
  obtain ⟨a, o, vs, n, e, hm, hc, hd, hs⟩ := x
  exact ⟨a, vs, e, ⟨o, k _ hm, hc, n, hd⟩, hs⟩
theorem SL.keeps {h h' : Heap} {v : Value} {ns : List Str} (x : SL h v ns) (k : ∀ b o, h.get? b = some o → h'.get? b = some o) : SL h' v ns := by
  obtain ⟨a, vs, e, hl, hs⟩ := x
  exact ⟨a, vs, e, Heap.IsList.keeps' hl k, hs⟩
theorem MailAt.keeps {h h' : Heap} {l : Addr} {items : Array Value} {xs : List Att} (x : MailAt h l items xs) (k : ∀ b o, h.get? b = some o → h'.get? b = some o) : MailAt h' l items xs := by
  obtain ⟨hl, hs, r⟩ := x
  refine ⟨Heap.IsList.keeps' hl k, hs, fun i hi => ?_⟩
  obtain ⟨v, e, t, ta, tb, e2, o, ho, z⟩ := r i hi
  exact ⟨v, e, t, ta, tb, e2, o, k _ _ ho, z⟩
theorem AN.at {nw : List (Addr × Obj)} {v : Value} {y : Att} {h : Heap} (x : AN nw v y) (k : ∀ p ∈ nw, h.get? p.1 = some p.2) : AttAt h v y := by
  obtain ⟨t, ta, tb, e, hm⟩ := x
  exact ⟨t, ta, tb, e, _, k _ hm, rfl, _, rfl⟩
theorem MN.at {nw : List (Addr × Obj)} {v : Value} {xs : List Att} {h : Heap} (x : MN nw v xs) (k : ∀ p ∈ nw, h.get? p.1 = some p.2) : ∃ l items, v = .ref l ∧ MailAt h l items xs := by
  obtain ⟨a, o, vs, n, e, hm, hc, hd, hl, r⟩ := x
  refine ⟨a, vs.toArray, e, ⟨o, k _ hm, hc, n, hd⟩, by simpa using hl, fun i hi => ?_⟩
  have hv : vs[i]? = some vs[i] := List.getElem?_eq_getElem (by omega)
  exact ⟨vs[i], by simpa using hv, (r i _ _ hv (List.getElem?_eq_getElem hi)).at k⟩
theorem strsOf : ∀ (ls : List (Str × Tok)), StrsAre (strValues ls) (ls.map (·.1))
  | [] => .nil
  | (x, t) :: r => .cons x t (strsOf r)
theorem strsLen {vs : List Value} {ns : List Str} (h : StrsAre vs ns) : vs.length = ns.length := h.length
theorem strsEq {A : Around} {s : Shared} : ∀ {vs ws : List Value} {ns : List Str}, StrsAre vs ns → StrsAre ws ns → ∀ (j : Nat) (h1 : j < vs.length) (h2 : j < ws.length), EqAt A s vs[j] ws[j] true
  | _, _, _, .nil, .nil, j, h1, _ => absurd h1 (by simp)
  | _, _, _, .cons x t r, .cons _ u r', 0, _, _ => by
    have := (eqGives_str x x t u).at A s
    rwa [beq_self_eq_true] at this
  | _, _, _, .cons x t r, .cons _ u r', j + 1, h1, h2 => strsEq r r' j (by simpa using h1) (by simpa using h2)
theorem eqLists {A : Around} {s : Shared} {l b : Addr} {items items2 : Array Value} (hl : s.heap.IsList l items) (hb : s.heap.IsList b items2) (hsz : items.size = items2.size) (hu : A.units < cLine)
    (he : ∀ j (h1 : j < items.size) (h2 : j < items2.size), EqAt A.in1 s items[j] items2[j] true) : EqAt A s (.ref l) (.ref b) true := by
  by_cases hne : l = b
  · subst hne; exact EqAt.same _
  · have := EqAt.of_refs hne (RcAt.lists (e := fun _ => true) hl hb hsz hu he)
    rwa [show ((List.range items.size).all fun _ => true) = true by simp] at this
theorem neLists {A : Around} {s : Shared} {l b : Addr} {items items2 : Array Value} (hl : s.heap.IsList l items) (hb : s.heap.IsList b items2) (hsz : items.size = items2.size) (hu : A.units < cLine)
    (he : ∀ j (h1 : j < items.size) (h2 : j < items2.size), EqAt A.in1 s items[j] items2[j] true) : RcNeAt A s (.ref l) (.ref b) false := by
  have := RcNeAt.lists (e := fun _ => true) hl hb hsz hu he
  rwa [show (!(List.range items.size).all fun _ => true) = false by simp] at this
theorem eqSL {A : Around} {s : Shared} {v w : Value} {ns : List Str} (h : SL s.heap v ns) (k : SL s.heap w ns) (hu : A.units < cLine) : EqAt A s v w true := by
  obtain ⟨a, vs, rfl, hl, hs⟩ := h
  obtain ⟨b, ws, rfl, hl', hs'⟩ := k
  have e1 := hs.length
  have e2 := hs'.length
  refine eqLists hl hl' (by simp; omega) hu fun j h1 h2 => ?_
  have := strsEq (A := A.in1) (s := s) hs hs' j (by simpa using h1) (by simpa using h2)
  simpa using this
theorem eqMail {A : Around} {s : Shared} {l b : Addr} {i1 i2 : Array Value} {xs : List Att} (h : MailAt s.heap l i1 xs) (k : MailAt s.heap b i2 xs) (hr : ∀ x ∈ xs, InR x.2) (hu : A.in1.units < cLine) (hu' : A.units < cLine) : EqAt A s (.ref l) (.ref b) true := by
  refine eqLists h.1 k.1 (by rw [h.2.1, k.2.1]) hu' fun j h1 h2 => ?_
  have hj : j < xs.length := h.2.1 ▸ h1
  obtain ⟨v, e, ha⟩ := h.2.2 j hj
  obtain ⟨v', e', ha'⟩ := k.2.2 j hj
  have d1 : i1[j] = v := by simpa [Array.getElem?_eq_getElem h1] using e
  have d2 : i2[j] = v' := by simpa [Array.getElem?_eq_getElem h2] using e'
  rw [d1, d2]
  have := eqAt_att (A := A.in1) ha ha' (hr _ (List.getElem_mem hj)) (hr _ (List.getElem_mem hj)) hu
  rwa [decide_eq_true rfl] at this
theorem mnOf {tups U : List (Addr × Obj)} {m0 : Addr} {i0 : Array Value} {k0 : Nat} {a0 : List Att} (hi : ItemsIn tups i0 a0) (hm : (m0, W.listOf i0 k0) ∈ U) (hs : ∀ p ∈ tups, p ∈ U) : MN U (.ref m0) a0 := by
  refine ⟨m0, _, i0.toList, k0, rfl, hm, rfl, rfl, by simpa using hi.1, fun j x y hx hy => ?_⟩
  have hj := (List.getElem?_eq_some_iff.mp hy).1
  obtain ⟨t, ta, tb, e, hm⟩ := hi.2 j hj
  have e1 : x = .ref t := by simpa [e, eq_comm] using hx
  have e2 : a0[j] = y := (List.getElem?_eq_some_iff.mp hy).2
  subst e1
  rw [e2] at hm
  exact ⟨t, ta, tb, rfl, hs _ hm⟩
/-- what a call brought joins the ledger -/
theorem newsMany {h₀ h h' : Heap} {L : Addr} {m : Str → Option Value} {nw U : List (Addr × Obj)} (F : Fr h₀ L h m) (N : News h₀ L h nw) (k : ∀ b o, h.get? b = some o → h'.get? b = some o) (hU : ∀ p ∈ U, h'.get? p.1 = some p.2 ∧ h.get? p.1 = none) : News h₀ L h' (nw ++ U) := fun p hp => by
  rcases List.mem_append.mp hp with hp | hp
  · exact ⟨k _ _ (N p hp).1, (N p hp).2⟩
  · obtain ⟨h1, h2⟩ := hU p hp
    refine ⟨h1, fun e => ?_, ?_⟩
    · obtain ⟨oL, _, _, hL, _⟩ := F.ns
      rw [e, hL] at h2; cases h2
    · cases e : h₀.get? p.1 with
      | none => rfl
      | some o => rw [F.keep _ o e] at h2; cases h2
theorem newNe {h₀ h : Heap} {L a c : Addr} {o : Obj} {nws : List (Addr × Obj)} (N : News h₀ L h nws) (hc : (c, o) ∈ nws) (ha : h.get? a = none) : a ≠ c := fun e => by
  have := (N _ hc).1
  rw [show (c, o).1 = a from e.symm, ha] at this; cases this
theorem storeCell {prog : Program} {w : World} {A : Around} {E : Value → Shared → Prop} {s : Shared} {env : Env} {h₀ : Heap} {L : Addr} {m : Str → Option Value} {own rest : List (Addr × Obj)} {c : Addr} {oc : Obj} {v₀ : Option Value} {v : Value} {y : Str} {Q : Unit → Shared → Prop}
    (F : Fr h₀ L s.heap m) (N : News h₀ L s.heap (own ++ (c, oc) :: rest)) (hk : env.scope.kind = .function) (hl : env.kindOf y = some .cell) (hc : env.cells.lookup y = some c) (hd : oc.data = .cell v₀) (h1 : ∀ p ∈ own, p.1 ≠ c) (h2 : ∀ p ∈ rest, p.1 ≠ c)
    (fin : ∀ h' oc', oc'.data = .cell (some v) → Fr h₀ L h' m → News h₀ L h' (own ++ (c, oc') :: rest) → Q () { s with heap := h' }) :
    wpAny (model prog w) A (storeName env y v) Q E s := by
  have hcm := N (c, oc) (List.mem_append_right _ (.head _))
  refine wpAny_storeName_cell hk hl hc ⟨oc, hcm.1, hd⟩ fun h₂ hv hs₂ => ?_
  obtain ⟨oc', ho', hd'⟩ := hv
  exact fin _ oc' hd' (F.change hs₂ hcm.2.1 hcm.2.2) (News.setAt (o := oc) N h1 h2 hs₂ ho')
theorem newsPick {h₀ h : Heap} {L : Addr} {a b c : Addr × Obj} {U : List (Addr × Obj)} (N : News h₀ L h (a :: b :: c :: U)) : News h₀ L h (c :: b :: U) := newsSub N fun p hp => by
  simp only [List.mem_cons] at hp ⊢
  rcases hp with e | e | e <;> simp [e]
theorem neMany {h₀ g h : Heap} {L D c : Addr} {o o' : Obj} {pre nw U : List (Addr × Obj)} {r : Addr × Obj → Prop} (N : News h₀ L g pre) (hc : (c, o) ∈ pre) (hD₀ : g.get? D = none) (hnw : ∀ p ∈ nw, h.get? p.1 = some p.2 ∧ g.get? p.1 = none ∧ r p) (hU : ∀ p ∈ U, p.1 ≠ c) : ∀ p ∈ (D, o') :: (nw ++ U), p.1 ≠ c := fun p hp => by
  rcases List.mem_cons.mp hp with rfl | e
  · exact newNe N hc hD₀
  · rcases List.mem_append.mp e with e | e
    · exact newNe N hc (hnw p e).2.1
    · exact hU p e
theorem newsRot {h₀ h : Heap} {L : Addr} {x a b : Addr × Obj} {nw U : List (Addr × Obj)} (N : News h₀ L h (x :: (nw ++ (a :: b :: U)))) : News h₀ L h (a :: b :: x :: (nw ++ U)) := newsSub N fun p hp => by
  simp only [List.mem_cons, List.mem_append] at hp ⊢
  rcases hp with e | e | e | e | e <;> simp [e]
theorem stC {M : Model} {A : Around} {E : Value → Shared → Prop} {s : Shared} {h₀ : Heap} {C : Addr} {m : Str → Option Value} {news : List (Addr × Obj)} {scope : Scope} {cl : List (Str × Addr)} {env : Env} {x : Str} {v : Value} {Q : Unit → Shared → Prop} (F : Fr h₀ C s.heap m) (N : News h₀ C s.heap news)
    (h : ∀ h' tk, Fr h₀ C h' (fun y => if y = x then some v else m y) → News h₀ C h' news → Q () { s with heap := h', toks := tk }) (hkind : scope.kind = .function := by rfl) (hx : scope.names.lookup x = some .local := by rfl) :
    wpAny M A (storeName (compEnvC scope cl C env) x v) Q E s :=
  wpAny_storeName_local (lookup_relabel_local hx) F.ns (fun _ hn₃ hs₃ => h _ _ (F.set hn₃ hs₃) (N.set hs₃)) (by simp [compEnvC, relabel, hkind])
/-- a row's head -/
theorem slice_one (x : List Nat) : (Txt.slice (Tx.mkS x) none (some 1) == Str.ofString ".") = decide (x.head? = some 46) := by
  cases x with
  | nil => decide +kernel
  | cons c l => rw [Tx.slice_head, head_no]; simp
theorem row_dot {x : List Nat} {o : List Int} (h : (Txt.slice (Tx.mkS x) none (some 1) == Str.ofString ".") = true) : Str.ofString "." ++ Tx.mkS (rowT x o) = Tx.mkS (escT (rowT x o)) := by
  rw [slice_one] at h
  have h := of_decide_eq_true h
  have e : escT (rowT x o) = 46 :: rowT x o := by
    refine if_pos ?_
    cases x with
    | nil => simp at h
    | cons c l => simpa [rowT] using h
  rw [e]
  show Str.append _ _ = _
  rw [show Str.ofString "." = Tx.mkS [46] by decide +kernel]
  simp [Str.append]
theorem row_plain {x : List Nat} {o : List Int} (h : (Txt.slice (Tx.mkS x) none (some 1) == Str.ofString ".") = false) : Str.ofString "" ++ Tx.mkS (rowT x o) = Tx.mkS (escT (rowT x o)) := by
  rw [slice_one] at h
  have h := of_decide_eq_false h
  have e : escT (rowT x o) = rowT x o := by
    refine if_neg ?_
    cases x with
    | nil => simp [rowT]
    | cons c l => simpa [rowT] using h
  rw [e]
  show Str.append _ _ = _
  rw [show Str.ofString "" = Tx.mkS [] by decide +kernel]
  simp [Str.append]
theorem newsNorm {h₀ h : Heap} {L : Addr} {a b c d : Addr × Obj} {nS nD U : List (Addr × Obj)} (N : News h₀ L h ([a] ++ b :: ((c :: (nS ++ U)) ++ (d :: nD)))) : News h₀ L h (a :: b :: c :: d :: (nS ++ (nD ++ U))) := newsSub N fun p hp => by
  simp only [List.mem_cons, List.mem_append, List.not_mem_nil, or_false] at hp ⊢
  rcases hp with e | e | e | e | e | e | e <;> simp [e]
theorem listGet {ss : List Value} {j : Nat} (h : j < ss.toArray.size) : ss[j]? = some (ss.toArray[j]) := by
  have h' : j < ss.length := by simpa using h
  rw [List.getElem?_eq_getElem h']
  simp
theorem neTwo {A : Around} {s : Shared} {S G : Addr} {ss gs : List Value} (f : Nat → List Str) (hS : s.heap.IsList S ss.toArray) (hG : s.heap.IsList G gs.toArray) (hl : ss.length = gs.length) (h1 : ∀ j v, ss[j]? = some v → SL s.heap v (f j)) (h2 : ∀ j v, gs[j]? = some v → SL s.heap v (f j)) (hu : A.units < cLine) (hu' : A.in1.units < cLine) : RcNeAt A s (.ref S) (.ref G) false :=
  neLists hS hG (by simpa using hl) hu fun j g1 g2 => eqSL (h1 j _ (listGet g1)) (h2 j _ (listGet g2)) hu'
theorem neMails {A : Around} {s : Shared} {S G : Addr} {ss gs : List Value} (f : Nat → List Att) (hS : s.heap.IsList S ss.toArray) (hG : s.heap.IsList G gs.toArray) (hl : ss.length = gs.length) (h1 : ∀ j v, ss[j]? = some v → ∃ l i, v = .ref l ∧ MailAt s.heap l i (f j)) (h2 : ∀ j v, gs[j]? = some v → ∃ l i, v = .ref l ∧ MailAt s.heap l i (f j))
    (hr : ∀ j, ∀ x ∈ f j, InR x.2) (hu : A.units < cLine) (hu' : A.in1.units < cLine) (hu2 : A.in1.in1.units < cLine) : RcNeAt A s (.ref S) (.ref G) false :=
  neLists hS hG (by simpa using hl) hu fun j g1 g2 => by
    obtain ⟨l, i, e, M⟩ := h1 j _ (listGet g1)
    obtain ⟨l', i', e', M'⟩ := h2 j _ (listGet g2)
    rw [e, e']
    exact eqMail M M' (hr j) hu2 hu'
theorem addedRow {vs : List Value} {ns : List Str} {t : Tok} (h : StrsAre vs ns) : StrsAre (vs ++ [Value.str (Str.ofString "") t]) (ns ++ [Tx.mkS []]) := by
  rw [← show Str.ofString "" = Tx.mkS [] by decide +kernel]
  exact strsSnoc h _ _
theorem newsDrop2 {h₀ h : Heap} {L : Addr} {a b : Addr × Obj} {r : List (Addr × Obj)} (N : News h₀ L h (a :: b :: r)) : News h₀ L h (a :: r) := newsSub N fun p hp => by
  simp only [List.mem_cons] at hp ⊢
  rcases hp with e | e <;> simp [e]
theorem sliceLast {prog : Program} {w : World} {A : Around} {E : Value → Shared → Prop} {s : Shared} {h₀ : Heap} {L : Addr} {m : Str → Option Value} {news : List (Addr × Obj)} {value slice : Expr} {l : Addr} {vs : List Value} {t : Tok} {Q : Value → Shared → Prop}
    (F : Fr h₀ L s.heap m) (N : News h₀ L s.heap news) (hl : s.heap.IsList l vs.toArray) (hz : vs.length ≤ 30)
    (h : ∀ D h', Fr h₀ L h' m → News h₀ L h' ((D, W.listOf (vs.take (vs.length - 1)).toArray 0) :: news) → Q (.ref D) { s with heap := h' })
    (hs : subscripted slice false (.ref l) (.ref s.heap.objs.size) = operate [.ref s.heap.objs.size, .ref l] (getItem (.ref l) (.ref s.heap.objs.size)))
    (ht : ∀ r, letTemporaryGo value (.ref l) r = pure ()) :
    wpAny (model prog w) A (subscriptTail value slice (.ref l) (.ref s.heap.objs.size)) Q E { s with heap := s.heap.push { cls := .type "slice", data := .fields #[.none, .int (-1) t, .none] } } := by
  refine slice_list F N hl .none (.int (-1) t) (fun h' F' N' => h _ h' F' ?_) hs ht (by rw [sizeLine_eq, List.size_toArray]; exact Nat.le_trans hz (by decide))
  have e := slicePick_butLast vs.toArray 1 (Nat.le_refl _)
  rw [show (some (-(((1 : Nat) : Int))) : Option Int) = some (-1) from rfl] at e
  rw [e] at N'
  simpa [W.listOf] using N'
theorem strsTake : ∀ {a : List Value} {x : List Str} (_ : StrsAre a x) (i : Nat), StrsAre (a.take i) (x.take i)
  | _, _, .nil, _ => by simpa using StrsAre.nil
  | _, _, .cons x t r, 0 => .nil
  | _, _, .cons x t r, i + 1 => .cons x t (strsTake r i)
theorem strAt : ∀ {vs : List Value} {ns : List Str} {i : Nat} {v : Value}, StrsAre vs ns → vs[i]? = some v → ∃ x t, ns[i]? = some x ∧ v = .str x t
  | _, _, i, v, .nil, h => by simp at h
  | _, _, 0, v, .cons x t r, h => ⟨x, t, rfl, by simpa [eq_comm] using h⟩
  | _, _, i + 1, v, .cons x t r, h => by
    rw [List.getElem?_cons_succ] at h
    obtain ⟨x', t', e, e2⟩ := strAt r h
    exact ⟨x', t', by rw [List.getElem?_cons_succ]; exact e, e2⟩
theorem rowsTake {vs : List Value} {ns : List Str} {y : Str} (h : StrsAre vs (ns ++ [y])) : StrsAre (vs.take (vs.length - 1)) ns := by
  have e := h.length
  have := strsTake h (vs.length - 1)
  rw [e, List.length_append, List.length_singleton, Nat.add_sub_cancel, List.take_left] at this
  rw [e, List.length_append, List.length_singleton, Nat.add_sub_cancel]
  exact this
theorem newsInner {h₀ h : Heap} {L : Addr} {a d : Addr × Obj} {nw own nw3 : List (Addr × Obj)} (N : News h₀ L h ((a :: (nw ++ own)) ++ (d :: nw3))) : News h₀ L h ((d :: (nw3 ++ nw)) ++ own) := newsSub N fun p hp => by
  simp only [List.mem_cons, List.mem_append, List.cons_append] at hp ⊢
  rcases hp with e | (e | e) | e <;> simp [e]
theorem itemAny {prog : Program} {w : World} {A : Around} {E : Value → Shared → Prop} {s : Shared} {value slice : Expr} {l : Addr} {items : Array Value} {k : Int} {u : Tok} {x : Value} {Q : Value → Shared → Prop} (hl : s.heap.IsList l items)
    (h0 : 0 ≤ k) (hfit : k < 2 ^ 63) (hx : items[k.toNat]? = some x) (h : Q x s)
    (hs : subscripted slice false (.ref l) (.int k u) = operate [.ref l, .int k u] (getItem (.ref l) (.int k u)) := by with_unfolding_all rfl) :
    wpAny (model prog w) A (subscriptTail value slice (.ref l) (.int k u)) Q E s :=
  tail_any hl.typeIs slot_list_getitem.lookup (wpAny_getItem_list hl h0 hfit hx h) hs
theorem two_of {α : Type} {l : List α} (h : l.length = 2) : ∃ a b, l = [a, b] := by
  match l, h with
  | [a, b], _ => exact ⟨a, b, rfl⟩
def two {α : Type} (a b : α) (j : Nat) : α := if j = 0 then a else b
end Mine
end

section
example : True := by w_top off; trivial
local macro_rules | `(tactic| walk_at "none0") => `(tactic| fail)
local macro_rules | `(tactic| walk_at "none1") => `(tactic| fail)
open PySem PySem.W PySem.Calls PyProof.Rows
namespace Mine
example : (topk.heap_39, PySem.Challenge.rw_kq0049_01) = (topk.heap_39, PySem.Challenge.rw_kq0049_01) := by k_fill; rfl
set_option pp.deepTerms false
set_option pp.deepTerms.threshold 4
set_option maxRecDepth 100000
section
variable {w : World} {A : Around} {s : Shared} {mean : ExcName → Option Value} {mg mb : Str → Option Value} {R : Result → Shared → Prop}
theorem rowT_len (x : List Nat) (o : List Int) : (rowT x o).length ≤ x.length + 2 * o.length + 4 := by
  have := enc_len o
  unfold rowT encT
  simp only [List.length_append, List.length_cons, List.length_map]; omega
theorem textUp_len {rows : List (List Nat)} {b : Nat} (h : ∀ r ∈ rows, r.length ≤ b) : ∀ k, k ≤ rows.length → (textUp rows k).length ≤ k * (b + 2)
  | 0, _ => by simp [textUp]
  | k + 1, hk => by
    have hp := h (rows[k]'(by omega)) (List.getElem_mem _)
    have e : rows.getD k [] = rows[k]'(by omega) := by simp [List.getD, List.getElem?_eq_getElem (show k < rows.length by omega)]
    have ih := textUp_len h k (by omega)
    have hs : (sepOf k).length ≤ 2 := by
      unfold sepOf
      split
      · simp
      · split <;> simp
    show (textUp rows k ++ (rows.getD k [] ++ sepOf k)).length ≤ _
    rw [e, Nat.succ_mul]
    simp only [List.length_append]; omega
local macro_rules | `(tactic| walk_at "subscriptTail Subscript Name Name Constant ref int") => `(tactic| k_extra "u22")
local macro_rules | `(tactic| walk_at "subscriptTail Subscript Name Name Constant ref int") => `(tactic| k_extra "u23")
local macro_rules | `(tactic| walk_at "subscriptTail Name Name ref int") => `(tactic| k_extra "u24")
local macro_rules | `(tactic| walk_at "call ref") => `(tactic| k_extra "u25")
local macro_rules | `(tactic| walk_at "call ref") => `(tactic| k_extra "u26")
local macro_rules | `(tactic| walk_at "eval Name") => `(tactic| k_extra "u27")
local macro_rules | `(tactic| walk_at "call builtin:len") => `(tactic| k_extra "u28")
example : True := by
  k_with "u22" => ((with_reducible show wpAny _ _ (subscriptTail _ _ (Value.ref _) (Value.int 0 _)) _ _ _); refine item_tuple (j := 0) (IsTup.keeps (by assumption) (Fr.keep (by assumption))) (by decide) (by decide) rfl rfl ?_)
  k_with "u23" => ((with_reducible show wpAny _ _ (subscriptTail _ _ (Value.ref _) (Value.int 1 _)) _ _ _); refine item_tuple (j := 1) (IsTup.keeps (by assumption) (Fr.keep (by assumption))) (by decide) (by decide) rfl rfl ?_)
  k_with "u24" => ((with_reducible show wpAny _ _ (subscriptTail _ _ (Value.ref _) (Value.int _ _)) _ _ _); refine item_list (Heap.IsList.keeps' (by assumption) (Fr.keep (by assumption))) (by omega) (by omega) (by first | assumption | (rw [Int.toNat_natCast]; assumption)) ?_)
  k_with "u25" => ((with_reducible show wpAny _ _ (call (Value.ref 155) _ _) _ _ _); refine wpAny_call (law_row_spec (by walk_at "mdeep") (by assumption) (by k_in) (Top.keeps (by assumption) (Fr.keep (by assumption))) (by simp only [Tx.mkS_len]; omega) (by rw [byteArr_size]; omega) ?_); intro _ _ _ _; walk_at "mafter")
  k_with "u26" => ((with_reducible show wpAny _ _ (call (Value.ref 55) _ _) _ _ _); refine wpAny_call (quotedata_spec (by walk_at "mdeep") (by k_in) (Top.keeps (by assumption) (Fr.keep (by assumption))) (by assumption) ?_); intro _ _ _ _; walk_at "mafter")
  k_with "u27" => (k_dflt (refine' ld ?k1 ?k2 ?_; (case k1 => k_asm); (case k2 => walk_at "mlook"); k_whole))
  k_with "u28" => ((with_reducible show wpAny _ _ (call (Value.builtin "len") [Value.ref _]) _ _ _); refine len_list (by first | exact Heap.IsList.keeps' (by assumption) (Fr.keep (by assumption))) (by omega) ?_)
  trivial
theorem crows_len {b : Nat} : ∀ {rows : List (List Nat)}, (∀ r ∈ rows, r.length ≤ b) → (crows rows).length ≤ rows.length * (b + 2)
  | [], _ => by simp [crows]
  | r :: rows, h => by
    have e : crows (r :: rows) = r ++ 13 :: 10 :: crows rows := by simp [crows]
    have ih := crows_len (rows := rows) fun x hx => h x (.tail _ hx)
    have := h r (.head _)
    rw [e, List.length_cons, Nat.succ_mul]
    simp only [List.length_append, List.length_cons]; omega
theorem escT_len (x : List Nat) : (escT x).length ≤ x.length + 1 := by
  unfold escT
  split <;> simp
set_option maxHeartbeats 8000000 in
theorem law_sent_spec {l : Addr} {items : Array Value} {atts : List Att} (hd : A.depth < 420) (hh : A.handled = none) (X : (topk.heap_39 w.params).In s.heap) (T : Top VW LO mean mg mb s.heap)
   (hm8 : atts.length ≤ 14) (hpl : ∀ x ∈ atts, (∀ c ∈ x.1, c ≠ 10 ∧ c ≠ 13) ∧ x.1.length ≤ 100 ∧ x.2.length ≤ 100 ∧ ∀ c ∈ x.2, 0 ≤ c ∧ c < 256) (hm : MailAt s.heap l items atts)
   (h : ∀ h' tk' a (ls : List (Str × Tok)), Keep s.heap h' → s.heap.get? a = none → h'.get? a = some { cls := .type "list", data := .seq (strValues ls).toArray } → ls.map (·.1) = (atts.map (fun x : Att => escT (rowT x.1 x.2))).map Tx.mkS ++ [Tx.mkS []] → R (.ok (.ret (.ref a))) {s with heap := h', toks := tk'}) :
   codeAny (model PP w) A (.call (.ref 162) ⟨[.ref l], []⟩) R s := by
  obtain ⟨hL, hsz, hit⟩ := hm
  walk_at "menter"
  intro h₁ F N
  walk_at "mwalk"
  have hrows : ∀ r ∈ atts.map (fun x : Att => rowT x.1 x.2), Plain r := by
    intro r hr
    obtain ⟨x, hx, rfl⟩ := List.mem_map.mp hr
    exact rowT_plain (hpl x hx).1
  have hrl : ∀ r ∈ atts.map (fun x : Att => rowT x.1 x.2), r.length ≤ 304 := by
    intro r hr
    obtain ⟨x, hx, rfl⟩ := List.mem_map.mp hr
    have := rowT_len x.1 x.2
    have := hpl x hx
    omega
  have hcount : (atts.map (fun x : Att => rowT x.1 x.2)).length = atts.length := List.length_map _
  generalize hR : atts.map (fun x : Att => rowT x.1 x.2) = rows at *
  rename Fr _ _ _ _ => F'
  rename News _ _ _ _ => N'
  refine loopRange (J := fun i m nw => nw = [] ∧ m (Str.ofString "mail") = some (.ref l) ∧ ∃ t, m (Str.ofString "text") = some (.str (Tx.mkS (textUp rows i)) t)) (by assumption) (n := items.size) (by assumption) (by omega) F' N' ⟨rfl, rfl, _, rfl⟩ ?_ ?_
  · rintro i t m₁ news₁ hp tk2 own I hi ⟨rfl, hmail, tt, htext⟩ hoff hown F₁ N₁
    have hat := hit i (by omega)
    have hnm := hpl _ (List.getElem_mem (show i < atts.length by omega))
    have htl : (Tx.mkS (textUp rows i)).length ≤ 5000 := by
      rw [Tx.mkS_len]
      have := textUp_len hrl i (by omega)
      omega
    obtain ⟨v, hv, ta, tx, tb, rfl, hT⟩ := hat
    clear F' N'
    have F : Fr s.heap s.heap.objs.size hp _ := F₁
    have N : News s.heap s.heap.objs.size hp own := by have := newsFlip N₁; exact this
    clear F₁ N₁
    walk_at "mwalk"
    dsimp only
    have hrow : ((⟨(rowT atts[i].1 atts[i].2).toArray⟩ : Str)).length ≤ 304 := by
      have := rowT_len atts[i].1 atts[i].2
      show (Tx.mkS _).length ≤ _
      rw [Tx.mkS_len]; omega
    have hbi : KBw.bInts (byteArr atts[i].2) = atts[i].2 := KBa.ints_make fun c hc => hnm.2.2.2 c hc
    rw [hbi]
    walk_at "mwalk"
    have hup : ∀ sp : Str, sp.cps.toList = sepOf i → (Tx.mkS (textUp rows i) ++ (⟨(rowT atts[i].1 atts[i].2).toArray⟩ : Str) ++ sp : Str) = Tx.mkS (textUp rows (i + 1)) := by
      intro sp hsp
      refine congrArg Str.mk ?_
      apply Array.ext'
      show ((textUp rows i).toArray ++ (rowT atts[i].1 atts[i].2).toArray ++ sp.cps).toList = (textUp rows (i + 1)).toArray.toList
      have hg : rows.getD i [] = rowT atts[i].1 atts[i].2 := by
        subst hR
        simp [List.getD, List.getElem?_eq_getElem (show i < atts.length by omega)]
      simp only [Array.toList_append, hsp, textUp, hg, List.append_assoc]
    have hcas : ((i : Int).fmod 3 = 0 ∧ sepOf i = [10]) ∨ ((i : Int).fmod 3 = 1 ∧ sepOf i = [13]) ∨ ((i : Int).fmod 3 = 2 ∧ sepOf i = [13, 10]) := by
      rw [Int.fmod_eq_emod_of_nonneg _ (by decide)]
      unfold sepOf
      have : i % 3 = 0 ∨ i % 3 = 1 ∨ i % 3 = 2 := by omega
      rcases this with e | e | e
      · exact .inl ⟨by omega, by rw [if_pos e]⟩
      · exact .inr (.inl ⟨by omega, by rw [if_neg (by omega), if_pos e]⟩)
      · exact .inr (.inr ⟨by omega, by rw [if_neg (by omega), if_neg (by omega)]⟩)
    rcases hcas with ⟨e, hsp⟩ | ⟨e, hsp⟩ | ⟨e, hsp⟩
    · skip
      rw [e]
      refine item_listL (News.isList (by assumption) (.head _)) (by decide) (by decide) rfl ?_
      walk_at "mwalk"
      have e2 := hup (Str.ofString "\n") (by rw [hsp]; decide +kernel)
      refine' TurnEnd.mk (by assumption) (newsSub (led := own ++ []) (by assumption) (fun p hp => by rw [List.append_nil] at hp; first | exact hp | exact List.mem_cons_of_mem _ hp)) (fun p hp => nomatch hp) ⟨rfl, ?e1, _, ?e2⟩
      case e1 => walk_at "mlook"
      case e2 => exact Eq.trans (b := some (.str (Tx.mkS (textUp rows i) ++ (⟨(rowT atts[i].1 atts[i].2).toArray⟩ : Str) ++ Str.ofString "\n" : Str) _)) (by walk_at "mlook") (by rw [e2])
    · skip
      rw [e]
      refine item_listL (News.isList (by assumption) (.head _)) (by decide) (by decide) rfl ?_
      walk_at "mwalk"
      have e2 := hup (Str.ofString "\r") (by rw [hsp]; decide +kernel)
      refine' TurnEnd.mk (by assumption) (newsSub (led := own ++ []) (by assumption) (fun p hp => by rw [List.append_nil] at hp; first | exact hp | exact List.mem_cons_of_mem _ hp)) (fun p hp => nomatch hp) ⟨rfl, ?e1, _, ?e2⟩
      case e1 => walk_at "mlook"
      case e2 => exact Eq.trans (b := some (.str (Tx.mkS (textUp rows i) ++ (⟨(rowT atts[i].1 atts[i].2).toArray⟩ : Str) ++ Str.ofString "\r" : Str) _)) (by walk_at "mlook") (by rw [e2])
    · skip
      rw [e]
      refine item_listL (News.isList (by assumption) (.head _)) (by decide) (by decide) rfl ?_
      walk_at "mwalk"
      have e2 := hup (Str.ofString "\r\n") (by rw [hsp]; decide +kernel)
      refine' TurnEnd.mk (by assumption) (newsSub (led := own ++ []) (by assumption) (fun p hp => by rw [List.append_nil] at hp; first | exact hp | exact List.mem_cons_of_mem _ hp)) (fun p hp => nomatch hp) ⟨rfl, ?e1, _, ?e2⟩
      case e1 => walk_at "mlook"
      case e2 => exact Eq.trans (b := some (.str (Tx.mkS (textUp rows i) ++ (⟨(rowT atts[i].1 atts[i].2).toArray⟩ : Str) ++ Str.ofString "\r\n" : Str) _)) (by walk_at "mlook") (by rw [e2])
  · rintro m₁ news₁ hp tk2 ⟨rfl, hmail, tt, htext⟩ F₁ N₁
    clear F' N'
    have htl : (Tx.mkS (textUp rows items.size)).cps.size ≤ 10000 := by
      rw [show (Tx.mkS (textUp rows items.size)).cps.size = (textUp rows items.size).length from Tx.mkS_len _]
      have := textUp_len hrl items.size (by omega)
      omega
    have F : Fr s.heap s.heap.objs.size hp _ := F₁
    have N : News s.heap s.heap.objs.size hp [] := N₁
    clear F₁ N₁
    walk_at "mwalk"
    have hq : Rx.quoted (textUp rows items.size).toArray.toList = crows (rows.map escT) := by rw [hsz, ← hcount, List.toList_toArray, quoted_text hrows]
    rw [hq]
    have hpe : ∀ r ∈ rows.map escT, Plain r := by
      intro r hr
      obtain ⟨x, hx, rfl⟩ := List.mem_map.mp hr
      exact escT_plain (hrows x hx)
    refine splitN1A (x := Tx.mkS (crows (rows.map escT))) (by assumption) (by assumption) (by decide +kernel) ?_ ?_
    · intro ls h' k hl _ _ hL' F' N'
      rw [split_rows hpe] at hl
      dsimp only
      exact h _ _ _ ls (Fr.keep (by assumption)) (News.fresh (by assumption) (.head _)) (News.get (by assumption) (.head _)) (by rw [hl, ← hR]; simp only [List.map_map]; rfl)
    · have := crows_len (b := 305) (rows := rows.map escT) (by
        intro r hr
        obtain ⟨x, hx, rfl⟩ := List.mem_map.mp hr
        have := hrl x hx
        have := escT_len x
        omega)
      rw [List.length_map, hcount] at this
      rw [Tx.mkS_len, sizeLine_eq]
      omega
end
end Mine
end

section
example : True := by w_top off; trivial
open PySem PySem.W PySem.Calls PyProof.Rows
namespace Mine
example : (topk.heap_39, PySem.Challenge.rw_kq0049_01) = (topk.heap_39, PySem.Challenge.rw_kq0049_01) := by k_fill; rfl
set_option pp.deepTerms false
set_option pp.deepTerms.threshold 4
set_option maxRecDepth 100000
section
variable {w : World} {A : Around} {s : Shared} {mean : ExcName → Option Value} {mg mb : Str → Option Value} {R : Result → Shared → Prop}
local macro_rules | `(tactic| walk_at "eval Name") => `(tactic| k_extra "u29")
local macro_rules | `(tactic| walk_at "subscriptTail") => `(tactic| k_extra "u30")
local macro_rules | `(tactic| walk_at "exec For Name Subscript cons nil") => `(tactic| ((rename Fr _ _ _ _ => lF'); (with_unfolding_all refine' For_invVF lF' ?k1 ?k2 ?_; (case k1 => exact rfl); (case k2 => exact rfl); k_whole)))
local macro_rules | `(tactic| walk_at "eval Name") => `(tactic| k_extra "u31")
local macro_rules | `(tactic| walk_at "subscriptTail Name Name ref int") => `(tactic| k_extra "u32")
example : True := by
  k_with "u29" => ((with_reducible show wpAny _ _ (eval (Expr.Name _ _) (compEnvC _ _ _ _)) _ _ _); k_dflt (first
      | refine cLoc (by k_asm) (by walk_at "mlook") ?_
      | refine LCgL.ld_global (by k_asm) (by assumption) (by assumption) (by k_is) ?_
      | refine LCgL.ld_built (by k_asm) (by assumption) (by assumption) (by k_is) (by boot_by_name) (by decide) ?_
      | refine cCell (by first | assumption | exact Heap.IsCell.keeps (by assumption) (Fr.keep (by assumption))) ?_))
  k_with "mcells" => (
      refine' enterC (by assumption) (Top.nolimit (by assumption)) ?k1 ?k2 ?k3 ?k4 ?k5 ?k6 ?_ ?c1 ?c2 ?c3
      (case k1 => k_is)
      (case k2 => k_is)
      (case k3 => exact roomOf (by assumption) (by decide))
      (case k4 => first | exact BindsTo.of_eq rfl | exact binds_K (by k_in) rfl (by k_is) rfl rfl rfl)
      (case k5 => exact rfl)
      (case k6 => decide +kernel)
      (case c1 => rfl)
      (case c2 => rfl)
      (case c3 => rfl))
  k_with "u30" => ((with_reducible show wpAny _ _ (subscriptTail _ _ (Value.ref _) (Value.int (Int.fmod _ 3) _)) _ _ _); refine itemMenu3 (News.isList (by assumption) (.head _)) ?_; intro _ _; dsimp only)
  k_with "u31" => ((with_reducible show wpAny _ _ (eval (Expr.Name _ _) (envOfC _ _ _ _ _)) _ _ _); refine ldE (by k_asm) (by walk_at "mlook") ?_)
  k_with "u32" => first
      | ((with_reducible show wpAny _ _ (subscriptTail _ _ (Value.ref _) (Value.int 0 _)) _ _ _); refine itemA (News.isList (by assumption) (by k_mem)) ?_)
      | ((with_reducible show wpAny _ _ (subscriptTail _ _ (Value.ref _) (Value.int 1 _)) _ _ _); refine itemB (News.isList (by assumption) (by k_mem)) ?_)
  trivial
set_option maxHeartbeats 8000000 in
theorem law_mails_spec {l : Addr} {vs : List Value} {ns : List Int} (hd : A.depth < 420) (hu : A.units < 1000) (hh : A.handled = none) (X : (topk.heap_39 w.params).In s.heap) (T : Top VW LO mean mg mb s.heap)
   (hL : s.heap.IsList l vs.toArray) (hI : IntsAre vs ns) (hn : ns.length ≤ 6)
   (h : ∀ h' tk' lm m0 m1 a0 a1 (U : List (Addr × Obj)), Keep s.heap h' → (∀ p ∈ U, h'.get? p.1 = some p.2 ∧ s.heap.get? p.1 = none) → (lm, W.listOf #[.ref m0, .ref m1] 0) ∈ U → MN U (.ref m0) a0 → MN U (.ref m1) a1 → MailOk a0 → MailOk a1 → a0.length ≤ 14 → a1.length ≤ 14 → R (.ok (.ret (.ref lm))) {s with heap := h', toks := tk'}) :
   codeAny (model PP w) A (.call (.ref 148) ⟨[.ref l], []⟩) R s := by
  walk_at "mcells"
  intro h₁ tk cells F N Y
  k_cells Y
  walk_at "mwalk"
  rename_i o1 d1 ls h9 q7 h8 oc doc tk3 t1 h7 q6 t2 h6 q5 m0 h5 q4 t3 h4 q3 t4 h3 q2 m1 h2 q1 lm hh1 q0 hF F' N'
  refine (fun (key : ∀ (sv : Array Value) (u1 u2 u3 u4 u5 u6 u7 u8 : Tok), News s.heap s.heap.objs.size hF [(lm, W.listOf #[.ref m0, .ref m1] 0), (m1, W.listOf #[.ref t3, .ref t4] 0), (t4, { cls := Value.type "tuple", data := Data.seq #[Value.str (Str.ofString "..") u7, Value.bytes #[97, 98, 99] u8] }), (t3, { cls := Value.type "tuple", data := Data.seq #[Value.str (Str.ofString ".a") u5, Value.bytes #[0, 255] u6] }), (m0, W.listOf #[.ref t1, .ref t2] 0), (t2, { cls := Value.type "tuple", data := Data.seq #[Value.str (Str.ofString "b") u3, Value.bytes #[] u4] }), (t1, { cls := Value.type "tuple", data := Data.seq #[Value.str (Str.ofString ".a") u1, Value.bytes #[0, 255] u2] }), (ls, W.listOf sv 0), (s.heap.objs.size + 1, oc)] → StrsAre sv.toList SIGNS → _) => key _ _ _ _ _ _ _ _ _ N' ?_) ?_
  · exact .cons _ _ (.cons _ _ (.cons _ _ (.cons _ _ (.cons _ _ (.cons _ _ (.cons _ _ (.cons _ _ (.cons _ _ (.cons _ _ .nil)))))))))
  clear N'
  intro sv u1 u2 u3 u4 u5 u6 u7 u8 N' hsv
  rename IntsAre vs ns => hI
  have hvl := hI.length
  have n1 : lm ≠ m0 := Nat.ne_of_gt q0.2.2.2.1
  have n2 : m1 ≠ m0 := Nat.ne_of_gt q1.2.2.1
  have n3 : ls ≠ m0 := Nat.ne_of_lt q4.2.2.1
  have n4 : s.heap.objs.size + 1 ≠ m0 := Nat.ne_of_lt q4.2.2.2
  have n5 : lm ≠ m1 := Nat.ne_of_gt q0.1
  have n6 : ls ≠ m1 := Nat.ne_of_lt q1.2.2.2.2.2.1
  have n7 : s.heap.objs.size + 1 ≠ m1 := Nat.ne_of_lt q1.2.2.2.2.2.2
  have n8 : m0 ≠ m1 := Ne.symm n2
  have hsz : vs.toArray.size ≤ 6 := by simp; omega
  clear q0 q1 q2 q3 q4 q5 q6 q7
  refine loopListB (J := fun i => MJ lm m0 m1 ls (s.heap.objs.size + 1) oc sv [] (2 + 2 * i)) hh (l := l) (items := vs.toArray) (F'.lst hL) ?_ F' (news := (lm, W.listOf #[.ref m0, .ref m1] 0) :: (m1, W.listOf #[.ref t3, .ref t4] 0) :: (m0, W.listOf #[.ref t1, .ref t2] 0) :: (ls, W.listOf sv 0) :: (s.heap.objs.size + 1, oc) :: [(t1, { cls := Value.type "tuple", data := Data.seq #[Value.str (Str.ofString ".a") u1, Value.bytes #[0, 255] u2] }), (t2, { cls := Value.type "tuple", data := Data.seq #[Value.str (Str.ofString "b") u3, Value.bytes #[] u4] }), (t3, { cls := Value.type "tuple", data := Data.seq #[Value.str (Str.ofString ".a") u5, Value.bytes #[0, 255] u6] }), (t4, { cls := Value.type "tuple", data := Data.seq #[Value.str (Str.ofString "..") u7, Value.bytes #[97, 98, 99] u8] })]) (newsSub N' ?_) ?_ ?_ ?_
  · intro e
    obtain ⟨o, ho, _⟩ := hL
    exact absurd (Heap.lt_size ho) (e ▸ Nat.lt_irrefl _)
  · intro p hp
    simp only [List.mem_cons, List.not_mem_nil, or_false] at hp ⊢
    rcases hp with e | e | e | e | e | e | e | e | e <;> (repeat (first | exact e | exact Or.inl e | exact Or.inl (Or.inl (Or.inl e)) | exact Or.inl (Or.inl (Or.inr e)) | exact Or.inl (Or.inl e) | exact Or.inl (Or.inr e) | refine Or.inr ?_))
  · refine ⟨by walk_at "mlook", _, _, _, _, [([46, 97], [0, 255]), ([98], [])], [([46, 97], [0, 255]), ([46, 46], [97, 98, 99])], [_, _, _, _], rfl, ?_, ?_, ?_, ?_, ?_, by simp, by simp⟩
    · intro p hp
      simp only [List.mem_cons, List.not_mem_nil, or_false] at hp
      rcases hp with e | e | e | e <;> rw [e]
    · refine ⟨rfl, fun j hj => ?_⟩
      rcases j with _ | _ | j
      · refine ⟨t1, u1, u2, rfl, ?_⟩
        have e : RowObj (Tx.mkS [46, 97]) (byteArr [0, 255]) u1 u2 = { cls := Value.type "tuple", data := Data.seq #[Value.str (Str.ofString ".a") u1, Value.bytes #[0, 255] u2] } := by
          unfold RowObj
          rw [show Tx.mkS [46, 97] = Str.ofString ".a" by decide +kernel, show byteArr [0, 255] = #[0, 255] by decide +kernel]
        show (t1, RowObj (Tx.mkS [46, 97]) (byteArr [0, 255]) _ _) ∈ _
        rw [e]
        simp
      · refine ⟨t2, u3, u4, rfl, ?_⟩
        have e : RowObj (Tx.mkS [98]) (byteArr []) u3 u4 = { cls := Value.type "tuple", data := Data.seq #[Value.str (Str.ofString "b") u3, Value.bytes #[] u4] } := by
          unfold RowObj
          rw [show Tx.mkS [98] = Str.ofString "b" by decide +kernel, show byteArr [] = #[] by decide +kernel]
        show (t2, RowObj (Tx.mkS [98]) (byteArr []) _ _) ∈ _
        rw [e]
        simp
      · simp at hj; omega
    · refine ⟨rfl, fun j hj => ?_⟩
      rcases j with _ | _ | j
      · refine ⟨t3, u5, u6, rfl, ?_⟩
        have e : RowObj (Tx.mkS [46, 97]) (byteArr [0, 255]) u5 u6 = { cls := Value.type "tuple", data := Data.seq #[Value.str (Str.ofString ".a") u5, Value.bytes #[0, 255] u6] } := by
          unfold RowObj
          rw [show Tx.mkS [46, 97] = Str.ofString ".a" by decide +kernel, show byteArr [0, 255] = #[0, 255] by decide +kernel]
        show (t3, RowObj (Tx.mkS [46, 97]) (byteArr [0, 255]) _ _) ∈ _
        rw [e]
        simp
      · refine ⟨t4, u7, u8, rfl, ?_⟩
        have e : RowObj (Tx.mkS [46, 46]) (byteArr [97, 98, 99]) u7 u8 = { cls := Value.type "tuple", data := Data.seq #[Value.str (Str.ofString "..") u7, Value.bytes #[97, 98, 99] u8] } := by
          unfold RowObj
          rw [show Tx.mkS [46, 46] = Str.ofString ".." by decide +kernel, show byteArr [97, 98, 99] = #[97, 98, 99] by decide +kernel]
        show (t4, RowObj (Tx.mkS [46, 46]) (byteArr [97, 98, 99]) _ _) ∈ _
        rw [e]
        simp
      · simp at hj; omega
    · exact mail_start0
    · exact mail_start1
  · rintro i v m₁ news₁ hp tk2 own I hIl hv ⟨em, i0, k0, i1, k1, a0, a1, tups, rfl, hrw, hi0, hi1, hm0, hm1, hl0, hl1⟩ hoff hown hIt F₁ N₁
    rw [List.append_nil] at N₁ hoff
    clear F' N'
    have hi6 : i < 6 := by
      have := (Array.getElem?_eq_some_iff.mp hv).1
      omega
    obtain ⟨n, t, _, rfl⟩ := intAt hI (by simpa using hv)
    have F : Fr s.heap s.heap.objs.size hp _ := F₁
    have N : News s.heap s.heap.objs.size hp ((lm, W.listOf #[.ref m0, .ref m1] 0) :: (m1, W.listOf i1 k1) :: (m0, W.listOf i0 k0) :: (ls, W.listOf sv 0) :: (s.heap.objs.size + 1, oc) :: (tups ++ own)) := newsFlip N₁
    clear F₁ N₁
    have hap0 : ∀ p ∈ own, p.1 ≠ m0 ∧ p.1 ≠ m1 := by
      have hl0 : ∃ ol, s.heap.get? l = some ol := by obtain ⟨ol, hol, _⟩ := hL; exact ⟨ol, hol⟩
      obtain ⟨ol, hol⟩ := hl0
      intro p hp
      rcases hown p hp with e | e <;> rw [e]
      · exact ⟨fun e2 => hoff (m0, W.listOf i0 k0) (.tail _ (.tail _ (.head _))) e2.symm, fun e2 => hoff (m1, W.listOf i1 k1) (.tail _ (.head _)) e2.symm⟩
      · refine ⟨fun e2 => ?_, fun e2 => ?_⟩
        · have := (N (m0, W.listOf i0 k0) (.tail _ (.tail _ (.head _)))).2.2
          rw [← e2, hol] at this; cases this
        · have := (N (m1, W.listOf i1 k1) (.tail _ (.head _))).2.2
          rw [← e2, hol] at this; cases this
    have hoffB : ∀ a, a = lm ∨ a = m1 ∨ a = m0 ∨ a = ls ∨ a = s.heap.objs.size + 1 → a ≠ I := by
      rintro a (rfl | rfl | rfl | rfl | rfl)
      · exact hoff _ (.head _)
      · exact hoff _ (.tail _ (.head _))
      · exact hoff _ (.tail _ (.tail _ (.head _)))
      · exact hoff _ (.tail _ (.tail _ (.tail _ (.head _))))
      · exact hoff _ (.tail _ (.tail _ (.tail _ (.tail _ (.head _)))))
    walk_at "mwalk"
    refine compG (by rfl) (by decide) (by rfl) (by decide) ?_
    walk_at "mwalk"
    rename Fr _ _ _ _ => F3
    rename News _ _ _ _ => N3
    have X3 := X.keeps (Fr.keep F3)
    have T3 := Top.keeps T (Fr.keep F3)
    have S3 : _ := News.isList N3 (.tail _ (.tail _ (.tail _ (.head _))))
    have c3 : _ := News.cellAt N3 (.tail _ (.tail _ (.tail _ (.tail _ (.head _))))) doc (fun e => e)
    have hdig := digits_of (z := ((if n.fdiv 3 < 0 then -(n.fdiv 3) else n.fdiv 3)).fmod 1000) (by rw [Int.fmod_eq_emod_of_nonneg _ (by decide)]; omega) (by rw [Int.fmod_eq_emod_of_nonneg _ (by decide)]; omega)
    refine srcStr (by assumption) (by rw [sizeLine_eq]; exact Nat.le_trans hdig.2 (by decide)) (fun i ys nw => nw = [] ∧ ∃ zs, StrsAre ys zs ∧ zs.length = i ∧ ∀ z ∈ zs, z ∈ SIGNS) ⟨rfl, [], .nil, rfl, by simp⟩ (turnName (by rfl) (by rfl) ?_) ?_
    · rintro i v ys nw own C h tk m E' hi ⟨c, u, hc, rfl⟩ ⟨rfl, zs, hzs, hzl, hz⟩ off F N
      dsimp only at F N
      walk_at "mwalk"
      have hcm := hdig.1 c (List.mem_of_getElem? (by rw [Array.getElem?_toList]; exact hc))
      refine KIN.call_text (digit_int hcm) (by show (1 : Nat) ≤ 640; omega) ?_
      have h10 : SIGNS.length = 10 := rfl
      obtain ⟨t', e⟩ := hsv.get (c - 48) (SIGNS[c - 48]'(by omega)) (by rw [List.getElem?_eq_getElem])
      refine item_list (Heap.IsList.keeps' S3 F.keep) (by omega) (by omega) (x := .str _ t') (by rw [Int.toNat_natCast, ← Array.getElem?_toList]; exact e) ?_
      refine EndC.mk' F N off ⟨rfl, zs ++ [_], strsSnoc hzs _ _, by rw [List.length_append, hzl]; rfl, fun z hz' => ?_⟩
      rcases List.mem_append.mp hz' with hz' | hz'
      · exact hz z hz'
      · rw [List.mem_singleton.mp hz']; exact List.getElem_mem _
    · rintro D ys nw h tk ⟨rfl, zs, hzs, hzl, hz⟩ hle k hD0 hD hnw
      dsimp only at k hD0
      have F4 := frExt F3 k
      have N4 := newsAdd F3 N3 k hD0 hD
      clear F3 N3 X3 T3 S3 c3 hnw k hD hD0
      dsimp only
      walk_at "mwalk"
      have hj := join_ok zs hz
      rw [hzl] at hj
      have hsum : (zs.map (·.length)).sum + zs.length ≤ 3 * zs.length := sumLen zs hz
      refine join_listW (ys := zs) (News.isList N4 (.head _)) (by simpa using hzs) (by decide +kernel) (by omega) ?_
      intro t' tk'
      obtain ⟨x, ex, hx⟩ : ∃ x, Txt.join (Str.ofString "") zs = Tx.mkS x ∧ NameOk x := by
        refine ⟨_, (mkS_of _).symm, ?_⟩
        show NameOk (PySem.Builtin.Str.glued _ _).cps.toList
        rw [StrLaws.glued_eq_join]
        refine ⟨hj.1, ?_⟩
        have := hj.2
        have e : ((Str.ofString "").join zs).length = ((Str.ofString "").join zs).cps.toList.length := by simp [Str.length]
        omega
      rw [ex]
      clear ex hj hsum hle hzl hdig
      walk_at "mwalk"
      rename Fr _ _ _ _ => F5
      rename News _ _ _ _ => N5
      refine bytesOfB N5 (.cons _ _ (.cons _ _ (.cons _ _ (.cons _ _ .nil)))) ?_ (by show (4 : Nat) ≤ 1000; omega) (by assumption) ?_
      · intro z hz'
        have f : ∀ y : Int, 0 ≤ y.fmod 256 ∧ y.fmod 256 < 256 := fun y => by rw [Int.fmod_eq_emod_of_nonneg _ (by decide)]; omega
        simp only [List.mem_cons, List.not_mem_nil, or_false] at hz'
        rcases hz' with rfl | rfl | rfl | rfl
        · exact f _
        · have := f (n.fdiv 3); omega
        · exact f _
        · omega
      · intro h6 tk6 t6 b hb k6
        have F6 := frExt F5 k6
        have N6 := newsExt N5 k6
        have hbr : InR (KBw.bInts b) := fun _ hk => KBw.ints_in hk
        have hbl : (KBw.bInts b).length = 4 := by rw [hb]; rfl
        clear F5 N5 k6 hb
        walk_at "mwalk"
        refine KBc.slice_K (s := ⟨_, _, _, _, _⟩) F6 N6 rfl (by constructor) (by constructor) (by omega) ?_
        intro h7 t7 k7 F7 N7 hp7
        obtain ⟨o, eo, ho⟩ : ∃ o, KBy.picked b none (some ((n.fdiv 3).fmod 5)) = byteArr o ∧ InR o ∧ o.length ≤ 100 := by
          refine ⟨_, (byteArr_bInts _).symm, fun _ hk => KBw.ints_in hk, ?_⟩
          rw [hp7, List.length_take, List.length_drop]; omega
        rw [eo]
        clear eo hp7 hbr hbl F6 N6
        have N8 : News s.heap s.heap.objs.size h7 ((lm, W.listOf #[.ref m0, .ref m1] 0) :: (m1, W.listOf i1 k1) :: (m0, W.listOf i0 k0) :: (ls, W.listOf sv 0) :: (s.heap.objs.size + 1, oc) :: (tups ++ own)) := newsSub N7 fun p hp => .tail _ (.tail _ hp)
        clear N7
        walk_at "mwalk"
        rename_i la ha qa lb hb qb lc hc qc ldd h9 F9 N9 q9 r hr
        obtain ⟨its, ws, hrl, hws, hwz, hwn, hrL, hr0, hr1⟩ : ∃ its ws, h9.IsList r its ∧ IntsAre its.toList ws ∧ (∀ z ∈ ws, z = 0 ∨ z = 1) ∧ its.size ≤ 2 ∧ r ≠ s.heap.objs.size ∧ r ≠ m0 ∧ r ≠ m1 := by
          rcases hr with rfl | rfl | rfl
          · exact ⟨_, _, News.isList N9 (.tail _ (.tail _ (.tail _ (.head _)))), .cons _ _ .nil, by simp, by show (1 : Nat) ≤ 2; omega, News.ne N9 (.tail _ (.tail _ (.tail _ (.head _)))), Nat.ne_of_gt qa.2.2.1, Nat.ne_of_gt qa.2.1⟩
          · exact ⟨_, _, News.isList N9 (.tail _ (.tail _ (.head _))), .cons _ _ .nil, by simp, by show (1 : Nat) ≤ 2; omega, News.ne N9 (.tail _ (.tail _ (.head _))), Nat.ne_of_gt qb.2.2.2.1, Nat.ne_of_gt qb.2.2.1⟩
          · exact ⟨_, _, News.isList N9 (.tail _ (.head _)), .cons _ _ (.cons _ _ .nil), by simp, Nat.le_refl 2, News.ne N9 (.tail _ (.head _)), Nat.ne_of_gt qc.2.2.2.2.1, Nat.ne_of_gt qc.2.2.2.1⟩
        have N8 : News s.heap s.heap.objs.size h9 ((lm, W.listOf #[.ref m0, .ref m1] 0) :: (m1, W.listOf i1 k1) :: (m0, W.listOf i0 k0) :: (ls, W.listOf sv 0) :: (s.heap.objs.size + 1, oc) :: (tups ++ own)) := newsSub N9 fun p hp => .tail _ (.tail _ (.tail _ (.tail _ hp)))
        clear N9 hr qa qb qc q9
        refine loopListB (J := fun j m nw => MJ lm m0 m1 ls (s.heap.objs.size + 1) oc sv own (2 + 2 * i + j) m nw ∧ (∃ t, m (Str.ofString "name") = some (.str (Tx.mkS x) t)) ∧ ∃ t, m (Str.ofString "octets") = some (.bytes (byteArr o) t)) hh hrl hrL F9 N8 ⟨⟨by walk_at "mlook", i0, k0, i1, k1, a0, a1, tups, rfl, hrw, hi0, hi1, hm0, hm1, by omega, by omega⟩, ⟨_, by walk_at "mlook"⟩, ⟨_, by walk_at "mlook"⟩⟩ ?_ ?_
        · clear F9 N8 hi0 hi1 hm0 hm1 hl0 hl1 hrw em hoff hown
          rintro j v m₂ nw h11 tk11 own2 I2 hne2 hv2 ⟨⟨em, i0, k0, i1, k1, a0, a1, tups, rfl, hrw, hi0, hi1, hm0, hm1, hl0, hl1⟩, ⟨tn, en⟩, ⟨to, eo⟩⟩ hoff2 hown2 ⟨oI2, hI2, hcI2⟩ F₁ N₁
          obtain ⟨z, tz, hz2, rfl⟩ := intAt hws (by rw [Array.getElem?_toList]; exact hv2)
          have hzz := hwz z (List.mem_of_getElem? hz2)
          have hj2 : j < 2 := by have := (Array.getElem?_eq_some_iff.mp hv2).1; omega
          have F : Fr s.heap s.heap.objs.size h11 _ := F₁
          have N : News s.heap s.heap.objs.size h11 ((lm, W.listOf #[.ref m0, .ref m1] 0) :: (m1, W.listOf i1 k1) :: (m0, W.listOf i0 k0) :: (ls, W.listOf sv 0) :: (s.heap.objs.size + 1, oc) :: ((tups ++ own) ++ own2)) := newsFlip N₁
          clear F₁ N₁
          rcases hzz with rfl | rfl
          · repeat' ((fail_if_success (with_reducible show wpAny _ _ (compareOp CmpOp.NotIn _ _) _ _ _)); first | walk1 | (dsimp only; walk1))
            rename_i D2 h12 F12 N12 q12
            refine notInMail (l := m0) (News.isList N12 (.tail _ (.tail _ (.tail _ (.head _))))) (attOfRow (x := (x, o)) (News.get N12 (.head _))) hi0.1 (fun jj hjj => let ⟨t, ta, tb, e, hm⟩ := hi0.2 jj hjj; ⟨_, e, attOfRow (News.get N12 (.tail _ (.tail _ (.tail _ (.tail _ (.tail _ (.tail _ (List.mem_append_left _ (List.mem_append_left _ hm))))))))) ⟩) (fun y hy => (hm0.2 y hy).2.1) ho.1 (by show A.units + 3 + 1 < 9900; omega) ?_
            walk_at "mwalk"
            · rename_i hnx D3 h13 F13 N13 q13
              have N14 : News s.heap s.heap.objs.size h13 ((m0, W.listOf i0 k0) :: (lm, W.listOf #[.ref m0, .ref m1] 0) :: (m1, W.listOf i1 k1) :: (ls, W.listOf sv 0) :: (s.heap.objs.size + 1, oc) :: ((((D3, RowObj (Tx.mkS x) (byteArr o) tn to) :: tups) ++ own) ++ own2)) := newsSub N13 (by
                intro p hp
                simp only [List.mem_cons, List.mem_append] at hp ⊢
                rcases hp with e | e | e | e | e | ((e | e) | e) | e <;> (repeat (first | exact e | exact Or.inl e | exact Or.inl (Or.inl (Or.inl e)) | exact Or.inl (Or.inl (Or.inr e)) | exact Or.inl (Or.inl e) | exact Or.inl (Or.inr e) | refine Or.inr ?_)))
              refine append_head F13 N14 ?hap ?hgo ?hz
              case hap =>
                intro p hp
                have hp2 := hp
                simp only [List.mem_cons, List.mem_append] at hp
                rcases hp with e | e | e | e | ((e | e) | e) | e
                · rw [e]; exact n1
                · rw [e]; exact n2
                · rw [e]; exact n3
                · rw [e]; exact n4
                · rw [e]; exact clsNe (q := (m0, W.listOf i0 k0)) N14 (.tail _ (e ▸ hp2)) (.head _) (by show Value.type "tuple" ≠ Value.type "list"; decide)
                · exact clsNe (q := (m0, W.listOf i0 k0)) N14 (.tail _ hp2) (.head _) (by rw [hrw p e]; show Value.type "tuple" ≠ Value.type "list"; decide)
                · exact (hap0 p e).1
                · rcases hown2 p e with e2 | e2 <;> rw [e2]
                  · exact fun e3 => hoff2 (m0, W.listOf i0 k0) (by k_mem) e3.symm
                  · exact hr0
              case hz => rw [sizeLine_eq, hi0.1]; omega
              case hgo =>
                intro h14 F14 N15
                walk_at "mwalk"
                have hao : AttOk (x, o) := ⟨hx, ho⟩
                refine' TurnEnd.mk F14 (newsSub (led := own2 ++ ((lm, W.listOf #[.ref m0, .ref m1] 0) :: (m1, W.listOf i1 k1) :: (m0, W.listOf (i0.push (.ref D3)) (k0 + 1)) :: (ls, W.listOf sv 0) :: (s.heap.objs.size + 1, oc) :: (((D3, RowObj (Tx.mkS x) (byteArr o) tn to) :: tups) ++ own))) N15 ?hs) ?hw ⟨⟨?em, _, _, _, _, _, _, _, rfl, ?e1, itemsPush hi0, itemsMore hi1, mailSnoc hm0 hao hnx, hm1, ?e2, ?e3⟩, ⟨tn, ?e4⟩, ⟨to, ?e5⟩⟩
                case hs =>
                  intro p hp
                  simp only [List.mem_cons, List.mem_append] at hp ⊢
                  rcases hp with e | e | e | e | e | e | ((e | e) | e) <;> (repeat (first | exact e | exact Or.inl e | exact Or.inl (Or.inl (Or.inl e)) | exact Or.inl (Or.inl (Or.inr e)) | exact Or.inl (Or.inl e) | exact Or.inl (Or.inr e) | refine Or.inr ?_))
                case hw =>
                  intro p hp hpI
                  have hpI := List.mem_singleton.mp hpI
                  simp only [List.mem_cons, List.mem_append] at hp
                  rcases hp with e | e | e | e | e | ((e | e) | e)
                  · exact hoff2 (lm, W.listOf #[.ref m0, .ref m1] 0) (by k_mem) (by rw [e] at hpI; exact hpI)
                  · exact hoff2 (m1, W.listOf i1 k1) (by k_mem) (by rw [e] at hpI; exact hpI)
                  · exact hoff2 (m0, W.listOf i0 k0) (by k_mem) (by rw [e] at hpI; exact hpI)
                  · exact hoff2 (ls, W.listOf sv 0) (by k_mem) (by rw [e] at hpI; exact hpI)
                  · exact hoff2 (s.heap.objs.size + 1, oc) (by k_mem) (by rw [e] at hpI; exact hpI)
                  · exact clsNe (p := (D3, RowObj (Tx.mkS x) (byteArr o) tn to)) (q := (I2, oI2)) N14 (.tail _ (.tail _ (.tail _ (.tail _ (.tail _ (List.mem_append_left _ (List.mem_append_left _ (.head _)))))))) (.tail _ (.tail _ (.tail _ (.tail _ (.tail _ (List.mem_append_right _ hI2)))))) (by show Value.type "tuple" ≠ oI2.cls; rw [hcI2]; decide) (by rw [e] at hpI; exact hpI)
                  · exact clsNe (p := p) (q := (I2, oI2)) N14 (.tail _ (.tail _ (.tail _ (.tail _ (.tail _ (List.mem_append_left _ (List.mem_append_left _ (.tail _ e)))))))) (.tail _ (.tail _ (.tail _ (.tail _ (.tail _ (List.mem_append_right _ hI2)))))) (by rw [hrw p e]; show Value.type "tuple" ≠ oI2.cls; rw [hcI2]; decide) hpI
                  · exact hoff2 p (.tail _ (.tail _ (.tail _ (.tail _ (.tail _ (List.mem_append_right _ e)))))) hpI
                case em => walk_at "mlook"
                case e1 =>
                  intro p hp
                  rcases List.mem_cons.mp hp with e | e
                  · rw [e]; rfl
                  · exact hrw p e
                case e2 => rw [List.length_append]; simp only [List.length_singleton]; omega
                case e3 => omega
                case e4 => walk_at "mlook"
                case e5 => walk_at "mlook"
            · refine' TurnEnd.mk (by assumption) (newsSub (led := own2 ++ ((lm, W.listOf #[.ref m0, .ref m1] 0) :: (m1, W.listOf i1 k1) :: (m0, W.listOf i0 k0) :: (ls, W.listOf sv 0) :: (s.heap.objs.size + 1, oc) :: (tups ++ own))) N12 ?hs) (fun p hp hpI => hoff2 p hp (List.mem_singleton.mp hpI)) ⟨⟨?em, _, _, _, _, _, _, _, rfl, hrw, hi0, hi1, hm0, hm1, ?e2, ?e3⟩, ⟨tn, ?e4⟩, ⟨to, ?e5⟩⟩
              case hs =>
                intro p hp
                simp only [List.mem_cons, List.mem_append] at hp ⊢
                rcases hp with e | e | e | e | e | e | (e | e) <;> (repeat (first | exact e | exact Or.inl e | exact Or.inl (Or.inl (Or.inl e)) | exact Or.inl (Or.inl (Or.inr e)) | exact Or.inl (Or.inl e) | exact Or.inl (Or.inr e) | refine Or.inr ?_))
              case em => walk_at "mlook"
              case e2 => omega
              case e3 => omega
              case e4 => walk_at "mlook"
              case e5 => walk_at "mlook"
          · repeat' ((fail_if_success (with_reducible show wpAny _ _ (compareOp CmpOp.NotIn _ _) _ _ _)); first | walk1 | (dsimp only; walk1))
            rename_i D2 h12 F12 N12 q12
            refine notInMail (l := m1) (News.isList N12 (.tail _ (.tail _ (.head _)))) (attOfRow (x := (x, o)) (News.get N12 (.head _))) hi1.1 (fun jj hjj => let ⟨t, ta, tb, e, hm⟩ := hi1.2 jj hjj; ⟨_, e, attOfRow (News.get N12 (.tail _ (.tail _ (.tail _ (.tail _ (.tail _ (.tail _ (List.mem_append_left _ (List.mem_append_left _ hm))))))))) ⟩) (fun y hy => (hm1.2 y hy).2.1) ho.1 (by show A.units + 3 + 1 < 9900; omega) ?_
            walk_at "mwalk"
            · rename_i hnx D3 h13 F13 N13 q13
              have N14 : News s.heap s.heap.objs.size h13 ((m1, W.listOf i1 k1) :: (lm, W.listOf #[.ref m0, .ref m1] 0) :: (m0, W.listOf i0 k0) :: (ls, W.listOf sv 0) :: (s.heap.objs.size + 1, oc) :: ((((D3, RowObj (Tx.mkS x) (byteArr o) tn to) :: tups) ++ own) ++ own2)) := newsSub N13 (by
                intro p hp
                simp only [List.mem_cons, List.mem_append] at hp ⊢
                rcases hp with e | e | e | e | e | ((e | e) | e) | e <;> (repeat (first | exact e | exact Or.inl e | exact Or.inl (Or.inl (Or.inl e)) | exact Or.inl (Or.inl (Or.inr e)) | exact Or.inl (Or.inl e) | exact Or.inl (Or.inr e) | refine Or.inr ?_)))
              refine append_head F13 N14 ?hap ?hgo ?hz
              case hap =>
                intro p hp
                have hp2 := hp
                simp only [List.mem_cons, List.mem_append] at hp
                rcases hp with e | e | e | e | ((e | e) | e) | e
                · rw [e]; exact n5
                · rw [e]; exact n8
                · rw [e]; exact n6
                · rw [e]; exact n7
                · rw [e]; exact clsNe (q := (m1, W.listOf i1 k1)) N14 (.tail _ (e ▸ hp2)) (.head _) (by show Value.type "tuple" ≠ Value.type "list"; decide)
                · exact clsNe (q := (m1, W.listOf i1 k1)) N14 (.tail _ hp2) (.head _) (by rw [hrw p e]; show Value.type "tuple" ≠ Value.type "list"; decide)
                · exact (hap0 p e).2
                · rcases hown2 p e with e2 | e2 <;> rw [e2]
                  · exact fun e3 => hoff2 (m1, W.listOf i1 k1) (by k_mem) e3.symm
                  · exact hr1
              case hz => rw [sizeLine_eq, hi1.1]; omega
              case hgo =>
                intro h14 F14 N15
                walk_at "mwalk"
                have hao : AttOk (x, o) := ⟨hx, ho⟩
                refine' TurnEnd.mk F14 (newsSub (led := own2 ++ ((lm, W.listOf #[.ref m0, .ref m1] 0) :: (m1, W.listOf (i1.push (.ref D3)) (k1 + 1)) :: (m0, W.listOf i0 k0) :: (ls, W.listOf sv 0) :: (s.heap.objs.size + 1, oc) :: (((D3, RowObj (Tx.mkS x) (byteArr o) tn to) :: tups) ++ own))) N15 ?hs) ?hw ⟨⟨?em, _, _, _, _, _, _, _, rfl, ?e1, itemsMore hi0, itemsPush hi1, hm0, mailSnoc hm1 hao hnx, ?e2, ?e3⟩, ⟨tn, ?e4⟩, ⟨to, ?e5⟩⟩
                case hs =>
                  intro p hp
                  simp only [List.mem_cons, List.mem_append] at hp ⊢
                  rcases hp with e | e | e | e | e | e | ((e | e) | e) <;> (repeat (first | exact e | exact Or.inl e | exact Or.inl (Or.inl (Or.inl e)) | exact Or.inl (Or.inl (Or.inr e)) | exact Or.inl (Or.inl e) | exact Or.inl (Or.inr e) | refine Or.inr ?_))
                case hw =>
                  intro p hp hpI
                  have hpI := List.mem_singleton.mp hpI
                  simp only [List.mem_cons, List.mem_append] at hp
                  rcases hp with e | e | e | e | e | ((e | e) | e)
                  · exact hoff2 (lm, W.listOf #[.ref m0, .ref m1] 0) (by k_mem) (by rw [e] at hpI; exact hpI)
                  · exact hoff2 (m1, W.listOf i1 k1) (by k_mem) (by rw [e] at hpI; exact hpI)
                  · exact hoff2 (m0, W.listOf i0 k0) (by k_mem) (by rw [e] at hpI; exact hpI)
                  · exact hoff2 (ls, W.listOf sv 0) (by k_mem) (by rw [e] at hpI; exact hpI)
                  · exact hoff2 (s.heap.objs.size + 1, oc) (by k_mem) (by rw [e] at hpI; exact hpI)
                  · exact clsNe (p := (D3, RowObj (Tx.mkS x) (byteArr o) tn to)) (q := (I2, oI2)) N14 (.tail _ (.tail _ (.tail _ (.tail _ (.tail _ (List.mem_append_left _ (List.mem_append_left _ (.head _)))))))) (.tail _ (.tail _ (.tail _ (.tail _ (.tail _ (List.mem_append_right _ hI2)))))) (by show Value.type "tuple" ≠ oI2.cls; rw [hcI2]; decide) (by rw [e] at hpI; exact hpI)
                  · exact clsNe (p := p) (q := (I2, oI2)) N14 (.tail _ (.tail _ (.tail _ (.tail _ (.tail _ (List.mem_append_left _ (List.mem_append_left _ (.tail _ e)))))))) (.tail _ (.tail _ (.tail _ (.tail _ (.tail _ (List.mem_append_right _ hI2)))))) (by rw [hrw p e]; show Value.type "tuple" ≠ oI2.cls; rw [hcI2]; decide) hpI
                  · exact hoff2 p (.tail _ (.tail _ (.tail _ (.tail _ (.tail _ (List.mem_append_right _ e)))))) hpI
                case em => walk_at "mlook"
                case e1 =>
                  intro p hp
                  rcases List.mem_cons.mp hp with e | e
                  · rw [e]; rfl
                  · exact hrw p e
                case e2 => omega
                case e3 => rw [List.length_append]; simp only [List.length_singleton]; omega
                case e4 => walk_at "mlook"
                case e5 => walk_at "mlook"
            · refine' TurnEnd.mk (by assumption) (newsSub (led := own2 ++ ((lm, W.listOf #[.ref m0, .ref m1] 0) :: (m1, W.listOf i1 k1) :: (m0, W.listOf i0 k0) :: (ls, W.listOf sv 0) :: (s.heap.objs.size + 1, oc) :: (tups ++ own))) N12 ?hs) (fun p hp hpI => hoff2 p hp (List.mem_singleton.mp hpI)) ⟨⟨?em, _, _, _, _, _, _, _, rfl, hrw, hi0, hi1, hm0, hm1, ?e2, ?e3⟩, ⟨tn, ?e4⟩, ⟨to, ?e5⟩⟩
              case hs =>
                intro p hp
                simp only [List.mem_cons, List.mem_append] at hp ⊢
                rcases hp with e | e | e | e | e | e | (e | e) <;> (repeat (first | exact e | exact Or.inl e | exact Or.inl (Or.inl (Or.inl e)) | exact Or.inl (Or.inl (Or.inr e)) | exact Or.inl (Or.inl e) | exact Or.inl (Or.inr e) | refine Or.inr ?_))
              case em => walk_at "mlook"
              case e2 => omega
              case e3 => omega
              case e4 => walk_at "mlook"
              case e5 => walk_at "mlook"
        · rintro m₂ nw h11 tk11 ⟨⟨em, i0, k0, i1, k1, a0, a1, tups, rfl, hrw, hi0, hi1, hm0, hm1, hl0, hl1⟩, _, _⟩ F N
          walk_at "mwalk"
          obtain ⟨oI, hI, hcI⟩ := hIt
          refine' TurnEnd.mk F (newsSub (led := own ++ ((lm, W.listOf #[.ref m0, .ref m1] 0) :: (m1, W.listOf i1 k1) :: (m0, W.listOf i0 k0) :: (ls, W.listOf sv 0) :: (s.heap.objs.size + 1, oc) :: (tups ++ []))) N ?hs) ?hw ⟨em, _, _, _, _, _, _, _, rfl, hrw, hi0, hi1, hm0, hm1, ?e2, ?e3⟩
          case hs =>
            intro p hp
            simp only [List.mem_cons, List.mem_append, List.not_mem_nil, or_false] at hp ⊢
            rcases hp with e | e | e | e | e | e | e <;> (repeat (first | exact e | exact Or.inl e | exact Or.inl (Or.inl (Or.inl e)) | exact Or.inl (Or.inl (Or.inr e)) | exact Or.inl (Or.inl e) | exact Or.inl (Or.inr e) | refine Or.inr ?_))
          case hw =>
            intro p hp hpI
            have hpI := List.mem_singleton.mp hpI
            simp only [List.mem_cons, List.mem_append, List.not_mem_nil, or_false] at hp
            rcases hp with e | e | e | e | e | e
            · exact hoffB lm (.inl rfl) (by rw [e] at hpI; exact hpI)
            · exact hoffB m1 (.inr (.inl rfl)) (by rw [e] at hpI; exact hpI)
            · exact hoffB m0 (.inr (.inr (.inl rfl))) (by rw [e] at hpI; exact hpI)
            · exact hoffB ls (.inr (.inr (.inr (.inl rfl)))) (by rw [e] at hpI; exact hpI)
            · exact hoffB (s.heap.objs.size + 1) (.inr (.inr (.inr (.inr rfl)))) (by rw [e] at hpI; exact hpI)
            · exact clsNe (p := p) (q := (I, oI)) N (by simp [e]) (by simp [hI]) (by rw [hrw p e]; show Value.type "tuple" ≠ oI.cls; rw [hcI]; decide) hpI
          case e2 => omega
          case e3 => omega
  · rintro m₁ nw hp tk2 ⟨em, i0, k0, i1, k1, a0, a1, tups, rfl, hrw, hi0, hi1, hm0, hm1, hl0, hl1⟩ F N
    have F2 : Fr s.heap s.heap.objs.size hp _ := F
    have N2 : News s.heap s.heap.objs.size hp ((lm, W.listOf #[.ref m0, .ref m1] 0) :: (m1, W.listOf i1 k1) :: (m0, W.listOf i0 k0) :: (ls, W.listOf sv 0) :: (s.heap.objs.size + 1, oc) :: (tups ++ [])) := N
    clear F N F'
    walk_at "mwalk"
    dsimp only
    exact h hp tk2 lm m0 m1 a0 a1 ((lm, W.listOf #[.ref m0, .ref m1] 0) :: (m1, W.listOf i1 k1) :: (m0, W.listOf i0 k0) :: tups) (Fr.keep F2) (fun p hp' => by
      have z := N2 p (by
        simp only [List.mem_cons, List.mem_append] at hp' ⊢
        rcases hp' with e | e | e | e <;> (repeat (first | exact e | exact Or.inl e | exact Or.inl (Or.inl (Or.inl e)) | exact Or.inl (Or.inl (Or.inr e)) | exact Or.inl (Or.inl e) | exact Or.inl (Or.inr e) | refine Or.inr ?_)))
      exact ⟨z.1, z.2.2⟩) (.head _) (mnOf hi0 (.tail _ (.tail _ (.head _))) fun p hp' => .tail _ (.tail _ (.tail _ hp'))) (mnOf hi1 (.tail _ (.head _)) fun p hp' => .tail _ (.tail _ (.tail _ hp'))) hm0 hm1 (by omega) (by omega)
end
end Mine
end

section
open PySem PySem.W PySem.Calls PyProof.Rows
namespace Mine
open PyProof.Rows.TI
section
variable {prog : Program} {w : World} {A₀ : Around} {E : Value → Shared → Prop} {s' : Shared} {hb : Heap} {L a e : Addr} {m : Str → Option Value} {name : Str} {scope : Scope} {cd : Value} {Q : Unit → Shared → Prop} {l : List Env} {frs new : List (Addr × Obj)} {oe : Obj} {vs : Array Value}
/-- note an exception that has no traceback yet, the frames' namespaces in the ledger -/
theorem noteLed {A : Around} (hfr : A.frames = some (envOf name scope L a cd :: l)) (Fs : Frs l frs) (he : s'.heap.get? e = some oe) (hd : oe.data = .fields vs) (h1 : vs[1]? = some .none) (he0 : hb.get? e = none)
    (F : Fr hb L s'.heap m) (N : News hb L s'.heap (new ++ frs)) (hap : ∀ p ∈ new, p.1 ∉ L :: frs.map (·.1)) (hne : ∀ p ∈ new, p.1 ≠ e)
    (k : ∀ h' tb otb tvs frs', SameUp frs frs' → Frs l frs' → Fr hb L h' m → News hb L h' ((e, oe.mapFields (·.setIfInBounds 1 (.ref tb))) :: (tb, otb) :: (new ++ frs')) → otb.data = .fields tvs → tvs[3]? = some (rawInt L) → 3 < tvs.size → tb ≠ e → (∀ p ∈ new ++ frs', p.1 ≠ tb) → Q () { s' with heap := h' }) (hk : scope.kind = .function := by rfl) :
    wpAny (model prog w) A (noteFrame (.ref e) (envOf name scope L a cd)) Q E s' := by
  have hsz : 1 < vs.size := (Array.getElem?_eq_some_iff.mp h1).1
  obtain ⟨hff, _⟩ := frames_at (name := name) (a := a) (cd := cd) (h' := s'.heap) (base := gone s'.heap (L :: frs.map (·.1))) hk Fs F N tail_sub (fun b o hb' => ⟨o.slots, hb'⟩) fun b hm => gone_none hm
  have hfrm : (envOf name scope L a cd :: l).filterMap (·.frame) = L :: frs.map (·.1) := frames_are Fs
  have hene : e ∉ L :: frs.map (·.1) := fun hm => by
    rw [← hfrm] at hm
    obtain ⟨_, o, ho, hnf⟩ := hff.mem hm
    rw [he] at ho; injection ho with ho; subst ho; exact hnf vs hd
  unfold noteFrame
  simp only [show (envOf name scope L a cd).frame = some L from rfl]
  refine wpAny_bind (wpAny_field he hd h1 ?_)
  rw [if_neg (by decide)]
  refine wpAny_bind (wpAny_frameOf_fun hfr hff rfl fun h₁ hs₁ => ?_)
  rw [hfrm] at hs₁
  refine wpAny_bind (wpAny_entryPlaceOf fun pl hpl => ?_)
  unfold EntryCells.newEntry newFields
  refine wpAny_bind (wpAny_newObj_type ?_ (hpl.sizeOk5 _ _ _ _ _))
  have he₁ : h₁.get? e = some oe := (hs₁.2.1 e hene).trans he
  have he₂ := Heap.get?_push_of_some (h := h₁) { cls := .type "traceback", dict := none, data := .fields ([Value.none, .ref L, .none, rawInt L, .none] ++ (if pl.isEmpty then List.replicate 6 Value.none else pl)).toArray } he₁
  refine wpAny_setField he₂ hd hsz ?_
  have hTe : h₁.objs.size ≠ e := Nat.ne_of_gt (Heap.lt_size he₁)
  have hd₃ := Obj.data_mapFields hd (·.setIfInBounds 1 (Value.ref h₁.objs.size))
  have keep : ∀ b o, b ≠ e → h₁.get? b = some o →
      ((h₁.push { cls := .type "traceback", dict := none, data := .fields ([Value.none, .ref L, .none, rawInt L, .none] ++ (if pl.isEmpty then List.replicate 6 Value.none else pl)).toArray }).update e (Obj.mapFields (·.setIfInBounds 1 (Value.ref h₁.objs.size)))).get? b = some o :=
    fun b o hbe hb => by
      rw [Heap.get?_update_other _ _ (Ne.symm hbe)]
      exact Heap.get?_push_of_some _ hb
  have he₃ := Heap.get?_update_self (Obj.mapFields (·.setIfInBounds 1 (Value.ref h₁.objs.size))) he₂ (Obj.isFreed_of_fields hd₃)
  have hT₃ := (Heap.get?_update_other (h₁.push { cls := .type "traceback", dict := none, data := .fields ([Value.none, .ref L, .none, rawInt L, .none] ++ (if pl.isEmpty then List.replicate 6 Value.none else pl)).toArray })
    (Obj.mapFields (·.setIfInBounds 1 (Value.ref h₁.objs.size))) (Ne.symm hTe)).trans (Heap.get?_push_size h₁ rfl)
  have hsz₁ : h₁.objs.size = s'.heap.objs.size := hs₁.1
  have old : ∀ b o, b ∉ L :: frs.map (·.1) → b ≠ e → s'.heap.get? b = some o → _ := fun b o hn hbe ho => keep b o hbe ((hs₁.2.1 b hn).trans ho)
  obtain ⟨frs', SU, ht⟩ := sameUp_of (frs := frs) (h' := (h₁.push { cls := .type "traceback", dict := none, data := .fields ([Value.none, .ref L, .none, rawInt L, .none] ++ (if pl.isEmpty then List.replicate 6 Value.none else pl)).toArray }).update e (Obj.mapFields (·.setIfInBounds 1 (Value.ref h₁.objs.size)))) fun p hp => by
    obtain ⟨sl, hsl⟩ := hs₁.2.2 p.1 p.2 (N p (List.mem_append_right _ hp)).1
    exact ⟨sl, keep _ _ (fun q => hene (List.mem_cons_of_mem _ (List.mem_map.mpr ⟨p, hp, q⟩))) hsl⟩
  have hLe : L ≠ e := fun q => hene (q ▸ List.mem_cons_self)
  have hT0 : ∀ b o, s'.heap.get? b = some o → b ≠ h₁.objs.size := fun b o ho => by rw [hsz₁]; exact Nat.ne_of_lt (Heap.lt_size ho)
  have N2 : ∀ p ∈ new ++ frs', ∃ o, s'.heap.get? p.1 = some o := fun p hp => by
    rcases List.mem_append.mp hp with hp | hp
    · exact ⟨_, (N p (List.mem_append_left _ hp)).1⟩
    · obtain ⟨x, hx, q⟩ := SU.fwd p hp
      exact ⟨x.2, by rw [q]; exact (N x (tail_sub x hx)).1⟩
  refine k _ h₁.objs.size { cls := .type "traceback", dict := none, data := .fields (([Value.none, .ref L, .none, rawInt L, .none] ++ (if pl.isEmpty then List.replicate 6 Value.none else pl)).toArray) } (([Value.none, .ref L, .none, rawInt L, .none] ++ (if pl.isEmpty then List.replicate 6 Value.none else pl)).toArray) frs' SU (Fs.up SU) ⟨?_, fun b o ho => ?_, F.above⟩ (fun p hp => ?_) rfl ?_ ?_ hTe (fun p hp => ?_)
  · obtain ⟨oL, es, ep, hL, hLd, r⟩ := F.ns
    obtain ⟨sl, hsl⟩ := hs₁.2.2 L oL hL
    exact ⟨_, es, ep, keep _ _ hLe hsl, hLd, r⟩
  · exact old b o (base_apart F N tail_sub ho) (fun q => by rw [q, he0] at ho; cases ho) (F.keep b o ho)
  · rcases List.mem_cons.mp hp with rfl | hp
    · exact ⟨he₃, Ne.symm hLe, he0⟩
    · rcases List.mem_cons.mp hp with rfl | hp
      · refine ⟨hT₃, ?_, ?_⟩
        · obtain ⟨oL, es, ep, hL, _⟩ := F.ns
          exact Ne.symm (hT0 L oL hL)
        · show hb.get? h₁.objs.size = none
          rw [hsz₁]
          exact next_is_new F
      · rcases List.mem_append.mp hp with hp | hp
        · obtain ⟨p1, p2, p3⟩ := N p (List.mem_append_left _ hp)
          exact ⟨old p.1 p.2 (hap p hp) (hne p hp) p1, p2, p3⟩
        · obtain ⟨x, hx, q⟩ := SU.fwd p hp
          obtain ⟨_, p2, p3⟩ := N x (tail_sub x hx)
          exact ⟨ht p hp, by rw [q]; exact p2, by rw [q]; exact p3⟩
  · rfl
  · show 3 < (([Value.none, .ref L, .none, rawInt L, .none] ++ (if pl.isEmpty then List.replicate 6 Value.none else pl)).toArray).size
    rw [List.size_toArray, List.length_append]
    show 3 < 5 + _
    omega
  · obtain ⟨o, ho⟩ := N2 p hp
    exact hT0 _ o ho
/-- note it again in the frame that it is in flight in -/
theorem noteAgain {A : Around} {tb : Addr} {otb : Obj} {tvs : Array Value} (he : s'.heap.get? e = some oe) (hd : oe.data = .fields vs) (h1 : vs[1]? = some (.ref tb)) (htb : s'.heap.get? tb = some otb) (hdt : otb.data = .fields tvs) (h3 : tvs[3]? = some (rawInt L)) (h : Q () s') :
    wpAny (model prog w) A (noteFrame (.ref e) (envOf name scope L a cd)) Q E s' := wpAny_noteFrame_inFlight rfl he hd h1 htb hdt h3 h
/-- it lands: its traceback's mark goes -/
theorem landLed {M : Model} {A : Around} {tb : Addr} {otb : Obj} {tvs : Array Value} {fl : Option Addr} {rest : List (Addr × Obj)} (F : Fr hb L s'.heap m) (N : News hb L s'.heap ((e, oe) :: (tb, otb) :: rest)) (hd : oe.data = .fields vs) (h1 : vs[1]? = some (.ref tb)) (hdt : otb.data = .fields tvs) (h3 : 3 < tvs.size)
    (hte : tb ≠ e) (hr : ∀ p ∈ rest, p.1 ≠ tb)
    (k : ∀ h', Fr hb L h' m → News hb L h' ((e, oe) :: (tb, otb.mapFields (·.setIfInBounds 3 (fl.elim .none fun f => rawInt f))) :: rest) → Q () { s' with heap := h' }) :
    wpAny M A (setFlight (.ref e) fl) Q E s' := by
  have he := (N (e, oe) List.mem_cons_self).1
  have htb := N (tb, otb) (List.mem_cons_of_mem _ List.mem_cons_self)
  unfold setFlight
  refine wpAny_bind (wpAny_field he hd h1 ?_)
  rw [if_pos (show (Value.ref tb != Value.none) = true from by simp)]
  have hdd := Obj.data_mapFields hdt (·.setIfInBounds 3 (fl.elim Value.none fun f => rawInt f))
  have other : ∀ b, b ≠ tb → (s'.heap.update tb (Obj.mapFields (·.setIfInBounds 3 (fl.elim Value.none fun f => rawInt f)))).get? b = s'.heap.get? b :=
    fun b hb => Heap.get?_update_other _ _ (Ne.symm hb)
  refine wpAny_setField htb.1 hdt h3 (k _ ⟨?_, fun b o ho => ?_, F.above⟩ fun p hp => ?_)
  · obtain ⟨oL, es, ep, hL, r⟩ := F.ns
    exact ⟨oL, es, ep, (other L (Ne.symm htb.2.1)).trans hL, r⟩
  · exact (other b (fun q => by rw [q, htb.2.2] at ho; cases ho)).trans (F.keep b o ho)
  · rcases List.mem_cons.mp hp with rfl | hp
    · exact ⟨(other e (Ne.symm hte)).trans he, (N (e, oe) List.mem_cons_self).2⟩
    · rcases List.mem_cons.mp hp with rfl | hp
      · exact ⟨Heap.get?_update_self _ htb.1 (Obj.isFreed_of_fields hdd), htb.2⟩
      · have z := N p (List.mem_cons_of_mem _ (List.mem_cons_of_mem _ hp))
        exact ⟨(other p.1 (hr p hp)).trans z.1, z.2⟩
end
end Mine
end

section
open PySem PySem.W PySem.Calls PyProof.Rows
namespace Mine
/-- a new exception raised while another is handled -/
structure NewExcH (h h' : Heap) (e x : Addr) (cls : String) : Prop where
  keeps : ∀ b o, h.get? b = some o → h'.get? b = some o
  new : h.get? e = none
  there : ∃ ob t, h'.get? e = some ob ∧ ob.cls = .type cls ∧ ob.data = .fields #[t, .none, .ref x, .none, .bool false, .none]
theorem entry_unchain : entryFor table "proto.unchain" = some Builtin.«proto.unchain» := entryFor_of_tree (by kernel_rfl)
section
variable {α : Type} {prog : Program} {w : World} {A : Around} {E : Value → Shared → Prop} {s : Shared}
theorem unchainNone {e x : Addr} {ox : Obj} {vx : Array Value} {b : Value} {Q : Value → Shared → Prop} (hx : s.heap.get? x = some ox) (hd : ox.data = .fields vx) (h2 : vx[2]? = some .none) (h : Q .none s) :
    wpAny (model prog w) A (runValue (.builtin "proto.unchain" ⟨[.ref e, .ref x, b, .bool false], []⟩)) Q E s := by
  refine runValue_entry entry_unchain ?_
  show wpAny _ _ (do
    let context ← field (.ref x) 2
    if context == .none then return ← ret .none
    if context == .ref e then
      rule "raise.context-cycle-cut"
      setField (.ref x) 2 .none
      return ← ret .none
    if context == b then rule "raise.context-old-cycle"; return ← ret .none
    let slow ← if false then field b 2 else pure b
    again (.builtin "proto.unchain" ⟨[.ref e, context, slow, .bool !false], []⟩)) _ _ s
  refine wpAny_bind (wpAny_field hx hd h2 ?_)
  exact wpAny_pure ⟨_, rfl, h⟩
theorem raiseNewH {e x : Addr} {oe ox : Obj} {ve vx : Array Value} {Q : α → Shared → Prop} (hh : A.handled = some (.ref x)) (hne : x ≠ e) (hx : s.heap.get? x = some ox) (hdx : ox.data = .fields vx) (h2 : vx[2]? = some .none)
    (he : s.heap.get? e = some oe) (hde : oe.data = .fields ve) (hsz : 2 < ve.size) (h : E (.ref e) { s with heap := s.heap.update e (Obj.mapFields (·.setIfInBounds 2 (.ref x))) }) :
    wpAny (model prog w) A (raiseNew (.ref e) : Sem α) Q E s := by
  unfold raiseNew
  refine wpAny_bind (wpAny_handled ?_)
  rw [hh]
  dsimp only
  have hb : (Value.ref x != Value.ref e) = true := by
    rw [bne_iff_ne]
    intro q; injection q with q; exact hne q
  rw [if_pos hb]
  refine wpAny_bind (wpAny_holding (unchainNone hx hdx h2 ?_))
  unfold updateField
  refine wpAny_bind (wpAny_bind (wpAny_load he ?_))
  rw [hde]
  dsimp only
  rw [if_pos hsz]
  exact wpAny_update he (wpAny_throw h)
theorem raiseWordsH {cls msg : String} {x : Addr} {ox : Obj} {vx : Array Value} {Q : α → Shared → Prop} (hp : PlainExc cls) (hh : A.handled = some (.ref x)) (hx : s.heap.get? x = some ox) (hdx : ox.data = .fields vx) (h2 : vx[2]? = some .none)
    (h : ∀ h' tk e, NewExcH s.heap h' e x cls → E (.ref e) { s with heap := h', toks := tk }) :
    wpAny (model prog w) A (raiseErrorWords cls msg : Sem α) Q E s := by
  unfold raiseErrorWords
  refine wpAny_bind (wpAny_mkText (wpAny_bind ?_))
  unfold newExc newTuple
  refine wpAny_bind (wpAny_newObj_type ?_)
  refine wpAny_bind (m := firstArgMember _ _) (wpAny_of_eq (a := Value.none) (by simp only [firstArgMember, hp.first]; rfl) ?_)
  rw [hp.own]
  refine wpAny_newObj_type ?_
  have hxlt := Heap.lt_size hx
  refine raiseNewH hh (fun q => ?_) (Heap.get?_push_of_some _ (Heap.get?_push_of_some _ hx)) hdx h2 (Heap.get?_push_size _ rfl) rfl ?_ ?_
  · rw [q] at hxlt
    exact absurd hxlt (by rw [Heap.size_push]; exact Nat.not_lt.mpr (Nat.le_succ _))
  · show 2 < 6; omega
  · refine h _ _ _ ⟨fun b o hb => ?_, Heap.get?_none_of_le (by simp), ?_⟩
    · have hlt := Heap.lt_size hb
      refine (Heap.get?_update_other _ _ (fun q => ?_)).trans (Heap.get?_push_of_some _ (Heap.get?_push_of_some _ hb))
      rw [← q] at hlt
      exact absurd hlt (by rw [Heap.size_push]; exact Nat.not_lt.mpr (Nat.le_succ _))
    · exact ⟨_, _, Heap.get?_update_self _ (Heap.get?_push_size _ rfl) rfl, rfl, rfl⟩
theorem getItemOutH {x l : Addr} {ox : Obj} {vx : Array Value} {items : Array Value} {k : Int} {t : Tok} {Q : Value → Shared → Prop} (hh : A.handled = some (.ref x)) (hx : s.heap.get? x = some ox) (hdx : ox.data = .fields vx) (h2 : vx[2]? = some .none) (hl : s.heap.IsList l items)
    (h0 : 0 ≤ k) (hout : (items.size : Int) ≤ k) (hhi : k < 2 ^ 63)
    (hE : ∀ h' tk e, NewExcH s.heap h' e x "IndexError" → E (.ref e) { s with heap := h', toks := tk }) :
    wpAny (model prog w) A (getItem (.ref l) (.int k t)) Q E s := by
  obtain ⟨o, ho, hc, ne, hd⟩ := id hl
  unfold getItem
  try with_reducible refine wpAny_holding ?_
  first | refine wpAny_bind (wpAny_pure ?_) | skip
  refine wpAny_bind (wpAny_sequenceKey hl.typeIs (by decide) ?_)
  refine wpAny_bind (wpAny_callSpecial?_slot (name := Str.ofString "__getitem__") hl.typeIs slot_list_getitem
    (wpAny_call_entry slot_list_getitem hl.typeIs entry_list_getitem ?_ (args_list_getitem _ _)))
  show wpAny _ _ (Builtin.List.listSubscript? (.int k t) >>= _) _ _ s
  refine wpAny_bind (wpAny_listSubscript_int (fitsIndex_both (Int.le_trans (by decide) h0) hhi) ?_)
  clear hhi
  obtain ⟨j, rfl⟩ := Int.eq_ofNat_of_zero_le h0
  have hx' : items[j]? = none := Array.getElem?_eq_none (by omega)
  show wpAny _ _ ((seqItemAt l j >>= fun r => pure (r.map (j, ·))) >>= _) _ _ s
  refine wpAny_bind (wpAny_bind (wpAny_seqItemAt ho hd (wpAny_pure ?_)))
  rw [hx']
  first
    | exact wpAny_bind (wpAny_rule (raiseWordsH plainExc_IndexError hh hx hdx h2 hE))
    | exact wpAny_bind (wpAny_rule (wpAny_bind (raiseWordsH plainExc_IndexError hh hx hdx h2 hE)))
    | exact wpAny_bind (wpAny_bind (wpAny_rule (raiseWordsH plainExc_IndexError hh hx hdx h2 hE)))
    | exact wpAny_rule (raiseWordsH plainExc_IndexError hh hx hdx h2 hE)
theorem itemOutH {value slice : PySem.Expr} {x l : Addr} {ox : Obj} {vx : Array Value} {items : Array Value} {k : Int} {t : Tok} {Q : Value → Shared → Prop} (hh : A.handled = some (.ref x)) (hx : s.heap.get? x = some ox) (hdx : ox.data = .fields vx) (h2 : vx[2]? = some .none) (hl : s.heap.IsList l items)
    (h0 : 0 ≤ k) (hout : (items.size : Int) ≤ k) (hhi : k < 2 ^ 63)
    (hE : ∀ h' tk e, NewExcH s.heap h' e x "IndexError" → E (.ref e) { s with heap := h', toks := tk })
    (hs : subscripted slice false (.ref l) (.int k t) = operate [.ref l, .int k t] (getItem (.ref l) (.int k t)) := by with_unfolding_all rfl) :
    wpAny (model prog w) A (subscriptTail value slice (.ref l) (.int k t)) Q E s :=
  tail_any hl.typeIs slot_list_getitem.lookup (getItemOutH hh hx hdx h2 hl h0 hout hhi hE) hs
end
end Mine
end

section
open PySem PySem.W PySem.Calls PyProof.Rows
namespace Mine
open PyProof.Rows.TI
/-- an exception in the ledger, noted; its traceback's mark is fl -/
structure Noted (hb : Heap) (L : Addr) (h : Heap) (m : Str → Option Value) (e tb : Addr) (oe otb : Obj) (fl : Value) (rest : List (Addr × Obj)) : Prop where
  fr : Fr hb L h m
  news : News hb L h ((e, oe) :: (tb, otb) :: rest)
  cls : oe.cls = .type "IndexError"
  at1 : ∃ vs, oe.data = .fields vs ∧ vs[1]? = some (.ref tb)
  at3 : ∃ tvs, otb.data = .fields tvs ∧ tvs[3]? = some fl
  tne : tb ≠ e
  off : ∀ p ∈ rest, p.1 ≠ tb
section
variable {w : World} {A : Around} {E : Value → Shared → Prop} {s' : Shared} {hb : Heap} {L a e tb : Addr} {m mg mb : Str → Option Value} {mean : ExcName → Option Value} {name : Str} {scope : Scope} {cd : Value} {l : List Env} {frs new rest : List (Addr × Obj)} {oe otb : Obj} {fl : Value}
theorem Noted.land {M : Model} {Q : Unit → Shared → Prop} (H : Noted hb L s'.heap m e tb oe otb fl rest) (f : Option Addr) (k : ∀ h' otb', Noted hb L h' m e tb oe otb' (f.elim .none fun f => rawInt f) rest → Q () { s' with heap := h' }) : wpAny M A (setFlight (.ref e) f) Q E s' := by
  obtain ⟨vs, hd, h1⟩ := H.at1
  obtain ⟨tvs, hdt, h3⟩ := H.at3
  have hsz : 3 < tvs.size := (Array.getElem?_eq_some_iff.mp h3).1
  refine landLed H.fr H.news hd h1 hdt hsz H.tne H.off fun h' F N => k h' _ ⟨F, N, H.cls, ⟨vs, hd, h1⟩, ⟨_, Obj.data_mapFields hdt _, ?_⟩, H.tne, H.off⟩
  simp [Array.getElem?_setIfInBounds, hsz]
theorem Noted.again {Q : Unit → Shared → Prop} (H : Noted hb L s'.heap m e tb oe otb (rawInt L) rest) (k : Q () s') : wpAny (model PP w) A (noteFrame (.ref e) (envOf name scope L a cd)) Q E s' := by
  obtain ⟨vs, hd, h1⟩ := H.at1
  obtain ⟨tvs, hdt, h3⟩ := H.at3
  exact noteAgain (News.get H.news (.head _)) hd h1 (News.get H.news (.tail _ (.head _))) hdt h3 k
/-- passing on behind a finally -/
theorem Noted.pass {α : Type} {what : String} {Q : α → Shared → Prop} (H : Noted hb L s'.heap m e tb oe otb fl rest) (k : ∀ h' otb', Noted hb L h' m e tb oe otb' (rawInt L) rest → E (.ref e) { s' with heap := h' }) : wpAny (model PP w) A (PySem.passOn what (.ref e) (envOf name scope L a cd) : Sem α) Q E s' := by
  obtain ⟨vs, hd, h1⟩ := H.at1
  unfold PySem.passOn
  refine wpAny_bind (wpAny_field (News.get H.news (.head _)) hd h1 ?_)
  rw [if_neg (show ¬ (Value.ref tb == Value.none) = true from by simp)]
  exact wpAny_bind (H.land (some L) fun h' otb' H' => wpAny_throw (k h' otb' H'))
theorem Noted.came {M : Model} (H : Noted hb L s'.heap m e tb oe otb fl rest) (k : ∀ h' otb', Noted hb L h' m e tb oe otb' (rawInt L) rest → E (.ref e) { s' with heap := h' }) : cameBackBy M A (envOf name scope L a cd) E (.ref e) s' := by
  obtain ⟨vs, hd, h1⟩ := H.at1
  unfold cameBackBy
  refine wpAny_bind (wpAny_field (News.get H.news (.head _)) hd h1 ?_)
  rw [if_neg (show ¬ (Value.ref tb == Value.none) = true from by simp)]
  exact H.land (some L) fun h' otb' H' => k h' otb' H'
/-- the first note -/
theorem noteFresh {Q : Unit → Shared → Prop} {vs : Array Value} (hfr : A.frames = some (envOf name scope L a cd :: l)) (Fs : Frs l frs) (hcls : oe.cls = .type "IndexError") (hd : oe.data = .fields vs) (h1 : vs[1]? = some .none)
    (F : Fr hb L s'.heap m) (N : News hb L s'.heap (((e, oe) :: new) ++ frs)) (hap : ∀ p ∈ new, p.1 ∉ L :: frs.map (·.1)) (hne : ∀ p ∈ new, p.1 ≠ e)
    (k : ∀ h' tb oe' otb frs', SameUp frs frs' → Frs l frs' → Noted hb L h' m e tb oe' otb (rawInt L) (new ++ frs') → (∀ i, i ≠ 1 → ∀ vs', oe'.data = .fields vs' → vs'[i]? = vs[i]?) → Q () { s' with heap := h' }) (hk : scope.kind = .function := by rfl) :
    wpAny (model PP w) A (noteFrame (.ref e) (envOf name scope L a cd)) Q E s' := by
  have he := N (e, oe) (.head _)
  have hsz : 1 < vs.size := (Array.getElem?_eq_some_iff.mp h1).1
  refine noteLed hfr Fs he.1 hd h1 he.2.2 F (newsSub N fun p hp => .tail _ hp) hap hne (fun h' tb otb tvs frs' SU Fs' F' N' hdt h3 h3s hte hoff => ?_) hk
  refine k h' tb _ otb frs' SU Fs' ⟨F', N', ?_, ⟨_, Obj.data_mapFields hd _, ?_⟩, ⟨tvs, hdt, h3⟩, hte, hoff⟩ ?_
  · rw [← hcls]; obtain ⟨c, d, dt, sl⟩ := oe; cases dt <;> rfl
  · simp [Array.getElem?_setIfInBounds, hsz]
  · intro i hi vs' hv
    rw [Obj.data_mapFields hd] at hv
    injection hv with hv
    rw [← hv, Array.getElem?_setIfInBounds_ne (Ne.symm hi)]
/-- except IndexError: from the flight's end on -/
theorem Noted.handle {K : Frag} {b₀ : Stmt} {suite : List Stmt} {np pos : Pos} {hs : List ExceptHandler} {Q : Flow → Shared → Prop} (H : Noted hb L s'.heap m e tb oe otb fl rest) (X : K.In hb) (T : Top VW LO mean mg mb hb) (ex : nsIn K mainGlobals (Str.ofString "IndexError") = some none)
    (k : ∀ h', Fr hb L h' m → News hb L h' rest → wpAny (model PP w) (A.mark (some (.ref e))) (execs (b₀ :: suite) (envOf name scope L a cd)) Q (fun _ _ => False) { s' with heap := h' })
    (hk : scope.kind = .function := by rfl) (hx : (envOf name scope L a cd).kindOf (Str.ofString "IndexError") = some .globalImplicit := by rfl) :
    wpAny (model PP w) A (setFlight (.ref e) none) (fun _ s₃ => wpAny (model PP w) A (handleBy (.ref e) (envOf name scope L a cd) (.ExceptHandler (some (.Name (Str.ofString "IndexError") np)) none (b₀ :: suite) pos :: hs)) Q E s₃) E s' := by
  refine H.land none fun h' otb' H' => ?_
  have hv : bootBuiltins (Str.ofString "IndexError") = some (.type "IndexError") := PyProof.Rows.Boot.«IndexError»
  refine wpAny_handleBy_builtin (X := "IndexError") (T := "IndexError") (b := true) PySem.F.isExc_IndexError PySem.F.notTuple_IndexError PySem.F.self_IndexError ?_
  refine name_B H'.fr X (topRead_of T) ex hv (by decide) ⟨rfl, ⟨oe, News.get H'.news (.head _), H'.cls⟩, ?_⟩ hk hx (by decide)
  rw [if_pos rfl]
  refine H'.land none fun h2 otb2 H2 => ?_
  exact wpAny_mono (k h2 H2.fr (newsSub H2.news fun p hp => .tail _ (.tail _ hp))) (fun _ _ x => x) fun _ _ x => x.elim
end
end Mine
end

section
example : True := by w_top off; trivial
open PySem PySem.W PySem.Calls PyProof.Rows
namespace Mine
example : (topk.heap_39, PySem.Challenge.rw_kq0049_01) = (topk.heap_39, PySem.Challenge.rw_kq0049_01) := by k_fill; rfl
set_option pp.deepTerms false
set_option pp.deepTerms.threshold 4
set_option maxRecDepth 100000
section
variable {w : World} {A : Around} {s : Shared} {mean : ExcName → Option Value} {mg mb : Str → Option Value} {R : Result → Shared → Prop}
local macro_rules | `(tactic| walk_at "eval Name") => `(tactic| k_extra "u33")
local macro_rules | `(tactic| walk_at "loadName") => `(tactic| k_extra "u34")
example : True := by
  k_with "mwalkW" => repeat' ((fail_if_success (with_reducible show wpAny _ _ (exec (Stmt.While _ _ _ _) _) _ _ _)); (fail_if_success (with_reducible show wpAny _ _ (subscriptTail _ _ (Value.ref _) (Value.int _ _)) _ _ _)); first | walk1 | (dsimp only; walk1))
  k_with "u33" => (k_dflt (refine' ld ?k1 ?k2 ?_; (case k1 => k_asm); (case k2 => walk_at "mlook"); k_whole))
  k_with "u34" => (refine ldn (by k_asm) (by walk_at "mlook") ?_)
  trivial
/-- what the first list alone has -/
def dif : List Str → List Str → List Str
  | [], _ => []
  | e :: a, [] => e :: a
  | e :: a, f :: b => if e.cps.toList < f.cps.toList then e :: dif a (f :: b) else if f.cps.toList < e.cps.toList then dif (e :: a) b else dif a b
termination_by a b => a.length + b.length
theorem dif_nil (b : List Str) : dif [] b = [] := by rw [dif]
theorem dif_self (a : List Str) : dif a [] = a := by cases a <;> rw [dif]
theorem dif_cons (e f : Str) (a b : List Str) : dif (e :: a) (f :: b) = if e.cps.toList < f.cps.toList then e :: dif a (f :: b) else if f.cps.toList < e.cps.toList then dif (e :: a) b else dif a b := by rw [dif]
inductive DJ (la lb lm lu : Addr) (xs ys : List Str) (frs : List (Addr × Obj)) (n : Nat) (m : Str → Option Value) (nw : List (Addr × Obj)) : Prop where
  | intro (i j : Nat) (ti tj : Tok) (M U : List Str) (VM VU : List Value) (km ku : Nat) (h1 : n = (xs.length - i) + (ys.length - j)) (h2 : i ≤ xs.length) (h3 : j ≤ ys.length) (h4 : m (Str.ofString "i") = some (.int (i : Int) ti)) (h5 : m (Str.ofString "j") = some (.int (j : Int) tj)) (h6 : m (Str.ofString "missing") = some (.ref lm)) (h7 : m (Str.ofString "unexpected") = some (.ref lu)) (h8 : m (Str.ofString "expected") = some (.ref la)) (h9 : m (Str.ofString "actual") = some (.ref lb)) (h10 : nw = (lu, W.listOf VU.toArray ku) :: (lm, W.listOf VM.toArray km) :: frs) (h11 : StrsAre VM M) (h12 : StrsAre VU U) (h13 : M.length ≤ i) (h14 : U.length ≤ j) (h15 : M ++ dif (xs.drop i) (ys.drop j) = dif xs ys) (h16 : U ++ dif (ys.drop j) (xs.drop i) = dif ys xs) : DJ la lb lm lu xs ys frs n m nw
open PyProof.Rows.TI in
inductive ExD (hb : Heap) (l : List Env) (L la lb lm lu : Addr) (xs ys : List Str) (frs : List (Addr × Obj)) (s : Shared) (e : Value) (s' : Shared) : Prop where
  | intro (x : Addr) (h : Heap) (tk : Nat) (m : Str → Option Value) (i j : Nat) (ti tj : Tok) (M U : List Str) (VM VU : List Value) (km ku : Nat) (frs' : List (Addr × Obj)) (h1 : e = .ref x) (h2 : s' = { s with heap := h, toks := tk }) (h3 : i ≤ xs.length) (h4 : j ≤ ys.length) (h5 : SameUp frs frs') (h6 : Frs l frs') (h7 : m (Str.ofString "i") = some (.int (i : Int) ti)) (h8 : m (Str.ofString "j") = some (.int (j : Int) tj)) (h9 : m (Str.ofString "missing") = some (.ref lm)) (h10 : m (Str.ofString "unexpected") = some (.ref lu)) (h11 : m (Str.ofString "expected") = some (.ref la)) (h12 : m (Str.ofString "actual") = some (.ref lb)) (h13 : StrsAre VM M) (h14 : StrsAre VU U) (h15 : M.length ≤ i) (h16 : U.length ≤ j) (h17 : M ++ xs.drop i = dif xs ys) (h18 : U ++ ys.drop j = dif ys xs) (h19 : ((∃ ox vx, Fr hb L h m ∧ News hb L h ((x, ox) :: ([(lu, W.listOf VU.toArray ku), (lm, W.listOf VM.toArray km)] ++ frs')) ∧ ox.cls = .type "IndexError" ∧ ox.data = .fields vx ∧ vx[1]? = some .none) ∨      (∃ tb oe otb, Noted hb L h m x tb oe otb (rawInt L) ([(lu, W.listOf VU.toArray ku), (lm, W.listOf VM.toArray km)] ++ frs')))) : ExD hb l L la lb lm lu xs ys frs s e s'
theorem splitE {prog : Program} {w : World} {A : Around} {α : Type} {t : Sem α} {Q : α → Shared → Prop} {E : Value → Shared → Prop} {s : Shared} (Ex : Value → Shared → Prop) (hE : ∀ e s', Ex e s' → E e s') (h : (∀ e s', Ex e s' → E e s') → wpAny (model prog w) A t Q E s) : wpAny (model prog w) A t Q E s := h hE
open PyProof.Rows.TI in
theorem frsApart {hb h : Heap} {L a : Addr} {l : List Env} {frs rest : List (Addr × Obj)} {o : Obj} (N : News hb L h (rest ++ frs)) (Fs : Frs l frs) (hm : (a, o) ∈ rest) (hd : ∀ es n, o.data ≠ .dict es n) : a ∉ L :: frs.map (·.1) := fun hx => by
  rcases List.mem_cons.mp hx with e | hx
  · exact (N (a, o) (List.mem_append_left _ hm)).2.1 e
  · obtain ⟨p, hp, e⟩ := List.mem_map.mp hx
    have h1 := (N p (List.mem_append_right _ hp)).1
    have h2 := (N (a, o) (List.mem_append_left _ hm)).1
    rw [e, h2] at h1
    obtain ⟨es, n, hdd⟩ := Fs.dict p hp
    exact hd es n ((congrArg Obj.data (Option.some.inj h1)).trans hdd)
open PyProof.Rows.TI in
theorem frsNe {hb h : Heap} {L a : Addr} {l : List Env} {frs news : List (Addr × Obj)} {o : Obj} (N : News hb L h news) (Fs : Frs l frs) (hs : ∀ p ∈ frs, p ∈ news) (hm : (a, o) ∈ news) (hd : ∀ es n, o.data ≠ .dict es n) : ∀ p ∈ frs, p.1 ≠ a := fun p hp e => by
  have h1 := (N p (hs p hp)).1
  have h2 := (N (a, o) hm).1
  rw [e, h2] at h1
  obtain ⟨es, n, hdd⟩ := Fs.dict p hp
  exact hd es n ((congrArg Obj.data (Option.some.inj h1)).trans hdd)
open PyProof.Rows.TI in
theorem twoApart {hb h : Heap} {L x lu lm : Addr} {l : List Env} {frs : List (Addr × Obj)} {ox : Obj} {VU VM : Array Value} {ku km : Nat} (N : News hb L h ((x, ox) :: ([(lu, W.listOf VU ku), (lm, W.listOf VM km)] ++ frs))) (Fs : Frs l frs) (hcls : ox.cls = .type "IndexError") :
    (∀ p ∈ [(lu, W.listOf VU ku), (lm, W.listOf VM km)], p.1 ∉ L :: frs.map (·.1)) ∧ ∀ p ∈ [(lu, W.listOf VU ku), (lm, W.listOf VM km)], p.1 ≠ x := by
  have N4 : News hb L h ([(lu, W.listOf VU ku), (lm, W.listOf VM km)] ++ frs) := newsSub N fun p hp => .tail _ hp
  refine ⟨fun p hp => ?_, fun p hp => ?_⟩
  · simp only [List.mem_cons, List.not_mem_nil, or_false] at hp
    rcases hp with rfl | rfl
    · exact frsApart N4 Fs (.head _) (fun _ _ q => by cases q)
    · exact frsApart N4 Fs (.tail _ (.head _)) (fun _ _ q => by cases q)
  · refine clsNe (q := (x, ox)) N (.tail _ (List.mem_append_left _ hp)) (.head _) ?_
    show p.2.cls ≠ ox.cls
    rw [hcls]
    simp only [List.mem_cons, List.not_mem_nil, or_false] at hp
    rcases hp with rfl | rfl <;> (show Value.type "list" ≠ _; decide)
theorem strsCat {a b : List Value} {x y : List Str} (h : StrsAre a x) (k : StrsAre b y) : StrsAre (a ++ b) (x ++ y) := by
  induction h with
  | nil => exact k
  | cons z u _ ih => exact .cons z u ih
theorem strsDrop : ∀ {a : List Value} {x : List Str} (_ : StrsAre a x) (i : Nat), StrsAre (a.drop i) (x.drop i)
  | _, _, h, 0 => h
  | _, _, .nil, _ + 1 => .nil
  | _, _, .cons z u r, i + 1 => strsDrop r i
theorem strsPick {a va : List Value} {x xs : List Str} (h : StrsAre a x) (k : StrsAre va xs) (i : Nat) : StrsAre (a ++ (slicePick va.toArray (some (i : Int)) none none).toList) (x ++ xs.drop i) := by
  rw [slicePick_from']
  simpa using strsCat h (strsDrop k i)
open PyProof.Rows.TI in
theorem enterD {K : Frag} {frs : List (Addr × Obj)} {hb : Heap} {name qual : Str} {params : Arguments} {body : List Stmt} {scope : Scope} {dV kV doc pm cdv ct oc : Value} {an od : Option Addr} {osl : Array (Option Value)} {f : Addr} {args : Args} {binds : List (Str × Value)}
    (kb : ∀ b o, hb.get? b = some o → s.heap.get? b = some o) (hbs : hb.objs.size ≤ s.heap.objs.size) (hfn : ∀ p ∈ frs, s.heap.get? p.1 = some p.2 ∧ hb.get? p.1 = none) (X : K.In hb) (hlim : hb.NoLimit)
    (ho : K.lookup f = some ⟨oc, od, .func (fnOf name qual params body scope dV kV doc pm an cdv ct), osl⟩) (hcd : codeIn K cdv qual = true) (hroom : A.depth < recursionLimit)
    (hbind : BindsTo s (fnOf name qual params body scope dV kV doc pm an cdv ct) args binds) (hloc : ∀ y ∈ binds, scope.names.lookup y.1 = some .local)
    (h : ∀ h₁, Fr hb s.heap.objs.size h₁ (fun y => binds.reverse.lookup y) → News hb s.heap.objs.size h₁ frs →
      wpAny (model PP w) (A.deeper (envOf qual scope s.heap.objs.size f cdv)) (execs body (envOf qual scope s.heap.objs.size f cdv))
        (fun fl s' => R (.ok (.ret (match fl with | .ret v => v | _ => .none))) s')
        (fun _ _ => False)
        { s with heap := h₁, toks := s.toks + binds.length })
    (hco : scope.isCoroutine = false := by rfl) (hgen : scope.isGenerator = false := by rfl) (hk : scope.kind = .function := by rfl)
    (hcell : ∀ x ∈ scope.names, x.2 ≠ .cell := by decide) : codeAny (model PP w) A (.call (.ref f) args) R s := by
  refine enter (X.keeps kb) (hlim.keeps kb) ho hcd hroom hbind hloc (fun h₁ F N => ?_) hco hgen hk hcell
  refine h h₁ ⟨F.ns, fun b o e => F.keep b o (kb b o e), Nat.le_trans hbs F.above⟩ fun p hp => ?_
  have z := hfn p hp
  exact ⟨F.keep _ _ z.1, Nat.ne_of_lt (Heap.lt_size z.1), z.2⟩
example : True := by
  k_with "menterD" => (
      refine' enterD (by assumption) (by assumption) (by assumption) (by assumption) (Top.nolimit (by assumption)) ?k1 ?k2 ?k3 ?k4 ?k5 ?_ ?c1 ?c2 ?c3 ?c4
      (case k1 => k_is)
      (case k2 => k_is)
      (case k3 => exact roomOf (by assumption) (by decide))
      (case k4 => first | exact BindsTo.of_eq rfl | exact binds_K (by k_in) rfl (by k_is) rfl rfl rfl)
      (case k5 => exact locs rfl)
      (case c1 => rfl)
      (case c2 => rfl)
      (case c3 => rfl)
      (case c4 => decide))
  trivial
open PyProof.Rows.TI in
set_option maxHeartbeats 8000000 in
theorem diff_spec {hb : Heap} {l : List Env} {frs : List (Addr × Obj)} {la lb : Addr} {va vb : List Value} {xs ys : List Str} (hd : A.depth < 430) (hh : A.handled = none) (hfr : A.frames = some l) (Fs : Frs l frs)
   (kb : ∀ b o, hb.get? b = some o → s.heap.get? b = some o) (hbs : hb.objs.size ≤ s.heap.objs.size) (hfn : ∀ p ∈ frs, s.heap.get? p.1 = some p.2 ∧ hb.get? p.1 = none)
   (X : (topk.heap_39 w.params).In hb) (T : Top VW LO mean mg mb hb)
   (hla : hb.IsList la va.toArray) (hlb : hb.IsList lb vb.toArray) (hxs : StrsAre va xs) (hys : StrsAre vb ys) (hx1 : xs.length ≤ 20) (hy1 : ys.length ≤ 20)
   (hxn : ∀ i (h : i + 1 < xs.length), xs[i + 1] ≠ xs[i]) (hyn : ∀ i (h : i + 1 < ys.length), ys[i + 1] ≠ ys[i])
   (h : ∀ h' tk' D lm lu (VM VU : List Value) frs', Keep hb h' → SameUp frs frs' → (∀ p ∈ frs', h'.get? p.1 = some p.2) → IsTup h' D #[.ref lm, .ref lu] → (hb.get? D = none ∧ hb.get? lm = none ∧ hb.get? lu = none) → h'.IsList lm VM.toArray → h'.IsList lu VU.toArray → StrsAre VM (dif xs ys) → StrsAre VU (dif ys xs) → R (.ok (.ret (.ref D))) {s with heap := h', toks := tk'}) :
   codeAny (model PP w) A (.call (.ref 143) ⟨[.ref la, .ref lb], []⟩) R s := by
  walk_at "menterD"
  intro h₁ F N
  walk_at "mwalkW"
  rename Fr _ _ _ _ => F2
  rename News _ _ _ _ => N2
  rename_i lm hA1 qA1 hA2 tA lu hA3 qA2 hA4
  have hxl := hxs.length
  have hyl := hys.length
  refine While_inv2 (J := DJ la lb lm lu xs ys frs) F2 N2 ⟨0, 0, _, _, [], [], [], [], 0, 0, rfl, by omega, by omega, by walk_at "mlook", by walk_at "mlook", by walk_at "mlook", by walk_at "mlook", by walk_at "mlook", by walk_at "mlook", rfl, .nil, .nil, by simp, by simp, by simp, by simp⟩ ?_ ?_
  · rintro n m₁ nw h₂ tk₂ F N ⟨i, j, ti, tj, M, U, VM, VU, km, ku, rfl, hi, hj, ei, ej, em, eu, ee, ea, rfl, hM, hU, hMl, hUl, hMe, hUe⟩
    clear F2 N2
    walk_at "mwalkW"
    refine splitE (ExD hb l s.heap.objs.size la lb lm lu xs ys frs s) ?exc ?_
    case exc =>
      rintro e s' ⟨x, h3, tk3, m3, i3, j3, ti3, tj3, M3, U3, VM3, VU3, km3, ku3, frs3, rfl, rfl, hi3, hj3, SU3, Fs3, ei3, ej3, em3, eu3, ee3, ea3, hM3, hU3, hMl3, hUl3, hMe3, hUe3, hcase⟩
      clear ei ej em eu ee ea hM hU hMl hUl hMe hUe F N hi hj
      rcases hcase with ⟨ox, vx, F3, N3, hcls, hdo, hv1⟩ | ⟨tb, oe, otb, H⟩
      · refine noteFresh (Around.frames_deeper hfr) Fs3 hcls hdo hv1 F3 N3 ?_ ?_ ?_
        · intro p hp
          have N4 : News hb s.heap.objs.size h3 ([(lu, W.listOf VU3.toArray ku3), (lm, W.listOf VM3.toArray km3)] ++ frs3) := newsSub N3 fun p hp => .tail _ hp
          simp only [List.mem_cons, List.not_mem_nil, or_false] at hp
          rcases hp with rfl | rfl
          · exact frsApart N4 Fs3 (.head _) (fun _ _ q => by cases q)
          · exact frsApart N4 Fs3 (.tail _ (.head _)) (fun _ _ q => by cases q)
        · intro p hp
          refine clsNe (q := (x, ox)) N3 (.tail _ (List.mem_append_left _ hp)) (.head _) ?_
          show p.2.cls ≠ ox.cls
          rw [hcls]
          simp only [List.mem_cons, List.not_mem_nil, or_false] at hp
          rcases hp with rfl | rfl <;> (show Value.type "list" ≠ _; decide)
        · intro h4 tb oe' otb frs' SU Fs' H4 _
          refine H4.handle X T (by k_is) ?_
          intro h5 F5 N5
          walk_at "mwalkW"
          rename Fr _ _ _ _ => F6
          rename News _ _ _ _ => N6
          have hm5 := Heap.lt_size (News.get N5 (.tail _ (.head _)))
          have hu5 := Heap.lt_size (News.get N5 (.head _))
          refine extend_in (own := [_, _]) (rest := frs') (D := lm) F6 N6 ?o1 ?o2 (News.get N6 (.head _)) ?g1 ?z1
          case z1 =>
            have hvl := hM3.length
            exact Nat.le_trans (Nat.add_le_add (show VM3.length ≤ 20 by omega) (Nat.le_trans (slicePick_size_le _ _ _ _) (show va.toArray.size ≤ 20 by rw [List.size_toArray]; omega))) (by rw [sizeLine_eq]; decide)
          case o1 =>
            intro p hp
            simp only [List.mem_cons, List.not_mem_nil, or_false] at hp
            rcases hp with rfl | rfl
            · exact Nat.ne_of_gt (Nat.lt_succ_of_lt hm5)
            · exact Nat.ne_of_gt qA2.1
          case o2 => exact frsNe N5 Fs' (fun p hp => List.mem_append_right _ hp) (.tail _ (.head _)) (fun _ _ q => by cases q)
          case g1 =>
            intro h7 n7 F7 N7
            clear F6 N6 F5
            walk_at "mwalkW"
            rename Fr _ _ _ _ => F8
            rename News _ _ _ _ => N8
            have hu7 := Heap.lt_size (News.get N7 (.tail _ (.head _)))
            refine extend_in (own := [_, _]) (rest := (lm, _) :: frs') (D := lu) F8 N8 ?o3 ?o4 (News.get N8 (.head _)) ?g2 ?z2
            case z2 =>
              have hvl := hU3.length
              exact Nat.le_trans (Nat.add_le_add (show VU3.length ≤ 20 by omega) (Nat.le_trans (slicePick_size_le _ _ _ _) (show vb.toArray.size ≤ 20 by rw [List.size_toArray]; omega))) (by rw [sizeLine_eq]; decide)
            case o3 =>
              intro p hp
              simp only [List.mem_cons, List.not_mem_nil, or_false] at hp
              rcases hp with rfl | rfl
              · exact Nat.ne_of_gt (Nat.lt_succ_of_lt hu7)
              · exact Nat.ne_of_gt (Nat.lt_succ_of_lt hu5)
            case o4 =>
              intro p hp
              rcases List.mem_cons.mp hp with rfl | hp
              · exact Nat.ne_of_lt qA2.1
              · exact frsNe N5 Fs' (fun p hp => List.mem_append_right _ hp) (.head _) (fun _ _ q => by cases q) p hp
            case g2 =>
              intro h9 n9 F9 N9
              clear F8 N8 N5 N7 F7
              walk_at "mwalkW"
              dsimp only [WhileStep2]
              walk_at "mwalkW"
              rename Fr _ _ _ _ => F11
              rename News _ _ _ _ => N11
              exact h _ _ _ lm lu _ _ frs' (Fr.keep F11) (SU3.trans SU) (fun p hp => News.get N11 (.tail _ (List.mem_append_right _ (.tail _ (.tail _ hp))))) (News.isTup N11 (.head _)) ⟨(N11 _ (.head _)).2.2, (N11 _ (.tail _ (List.mem_append_right _ (.tail _ (.head _))))).2.2, (N11 _ (.tail _ (List.mem_append_right _ (.head _)))).2.2⟩ (News.isList N11 (.tail _ (List.mem_append_right _ (.tail _ (.head _))))) (News.isList N11 (.tail _ (List.mem_append_right _ (.head _)))) (hMe3 ▸ strsPick hM3 hxs i3) (hUe3 ▸ strsPick hU3 hys j3)
      · refine H.again ?_
        refine H.handle X T (by k_is) ?_
        intro h5 F5 N5
        walk_at "mwalkW"
        rename Fr _ _ _ _ => F6
        rename News _ _ _ _ => N6
        have hm5 := Heap.lt_size (News.get N5 (.tail _ (.head _)))
        have hu5 := Heap.lt_size (News.get N5 (.head _))
        refine extend_in (own := [_, _]) (rest := frs3) (D := lm) F6 N6 ?o1 ?o2 (News.get N6 (.head _)) ?g1 ?z1
        case z1 =>
          have hvl := hM3.length
          exact Nat.le_trans (Nat.add_le_add (show VM3.length ≤ 20 by omega) (Nat.le_trans (slicePick_size_le _ _ _ _) (show va.toArray.size ≤ 20 by rw [List.size_toArray]; omega))) (by rw [sizeLine_eq]; decide)
        case o1 =>
          intro p hp
          simp only [List.mem_cons, List.not_mem_nil, or_false] at hp
          rcases hp with rfl | rfl
          · exact Nat.ne_of_gt (Nat.lt_succ_of_lt hm5)
          · exact Nat.ne_of_gt qA2.1
        case o2 => exact frsNe N5 Fs3 (fun p hp => List.mem_append_right _ hp) (.tail _ (.head _)) (fun _ _ q => by cases q)
        case g1 =>
          intro h7 n7 F7 N7
          clear F6 N6 F5
          walk_at "mwalkW"
          rename Fr _ _ _ _ => F8
          rename News _ _ _ _ => N8
          have hu7 := Heap.lt_size (News.get N7 (.tail _ (.head _)))
          refine extend_in (own := [_, _]) (rest := (lm, _) :: frs3) (D := lu) F8 N8 ?o3 ?o4 (News.get N8 (.head _)) ?g2 ?z2
          case z2 =>
            have hvl := hU3.length
            exact Nat.le_trans (Nat.add_le_add (show VU3.length ≤ 20 by omega) (Nat.le_trans (slicePick_size_le _ _ _ _) (show vb.toArray.size ≤ 20 by rw [List.size_toArray]; omega))) (by rw [sizeLine_eq]; decide)
          case o3 =>
            intro p hp
            simp only [List.mem_cons, List.not_mem_nil, or_false] at hp
            rcases hp with rfl | rfl
            · exact Nat.ne_of_gt (Nat.lt_succ_of_lt hu7)
            · exact Nat.ne_of_gt (Nat.lt_succ_of_lt hu5)
          case o4 =>
            intro p hp
            rcases List.mem_cons.mp hp with rfl | hp
            · exact Nat.ne_of_lt qA2.1
            · exact frsNe N5 Fs3 (fun p hp => List.mem_append_right _ hp) (.head _) (fun _ _ q => by cases q) p hp
          case g2 =>
            intro h9 n9 F9 N9
            clear F8 N8 N5 N7 F7
            walk_at "mwalkW"
            dsimp only [WhileStep2]
            walk_at "mwalkW"
            rename Fr _ _ _ _ => F11
            rename News _ _ _ _ => N11
            exact h _ _ _ lm lu _ _ frs3 (Fr.keep F11) (SU3) (fun p hp => News.get N11 (.tail _ (List.mem_append_right _ (.tail _ (.tail _ hp))))) (News.isTup N11 (.head _)) ⟨(N11 _ (.head _)).2.2, (N11 _ (.tail _ (List.mem_append_right _ (.tail _ (.head _))))).2.2, (N11 _ (.tail _ (List.mem_append_right _ (.head _)))).2.2⟩ (News.isList N11 (.tail _ (List.mem_append_right _ (.tail _ (.head _))))) (News.isList N11 (.tail _ (List.mem_append_right _ (.head _)))) (hMe3 ▸ strsPick hM3 hxs i3) (hUe3 ▸ strsPick hU3 hys j3)
    intro hE
    by_cases hil : i < xs.length
    · obtain ⟨te, hte⟩ := hxs.get i (xs[i]'hil) (List.getElem?_eq_getElem hil)
      refine item_list (Heap.IsList.keeps' hla F.keep) (by omega) (by omega) (x := .str (xs[i]'hil) te) (by rw [Int.toNat_natCast]; simpa using hte) ?_
      walk_at "mwalkW"
      rename Fr _ _ _ _ => F2
      rename News _ _ _ _ => N2
      by_cases hjl : j < ys.length
      · obtain ⟨ta, hta⟩ := hys.get j (ys[j]'hjl) (List.getElem?_eq_getElem hjl)
        refine item_list (Heap.IsList.keeps' hlb F2.keep) (by omega) (by omega) (x := .str (ys[j]'hjl) ta) (by rw [Int.toNat_natCast]; simpa using hta) ?_
        walk_at "mwalkW"
        · rename Fr _ _ _ _ => F4
          rename News _ _ _ _ => N4
          refine While_inv2 (J := fun n m nw => n = 0 ∧ m = _ ∧ nw = _) (n₀ := 0) F4 N4 ⟨rfl, rfl, rfl⟩ ?_ (by passes_own)
          rintro n m2 nw2 h8 tk8 F5 N5 ⟨rfl, rfl, rfl⟩
          clear F4 N4
          have hlt : xs[i].cps.toList < ys[j].cps.toList := by assumption
          have hd1 : xs.drop i = xs[i] :: xs.drop (i + 1) := List.drop_eq_getElem_cons hil
          have hd2 : ys.drop j = ys[j] :: ys.drop (j + 1) := List.drop_eq_getElem_cons hjl
          have hnl : ¬ ys[j].cps.toList < xs[i].cps.toList := fun q => absurd (List.lt_trans hlt q) (List.lt_irrefl _)
          have hMe2 : (M ++ [xs[i]]) ++ dif (xs.drop (i + 1)) (ys.drop j) = dif xs ys := by
            rw [← hMe, hd1, hd2, dif_cons, if_pos hlt, List.append_assoc]; rfl
          have hUe2 : U ++ dif (ys.drop j) (xs.drop (i + 1)) = dif ys xs := by
            rw [← hUe, hd1, hd2, dif_cons, if_neg hnl, if_pos hlt]
          walk_at "mwalkW"
          rename News _ _ _ _ => N5
          rw [List.push_toArray] at N5
          by_cases hi2 : i + 1 < xs.length
          · obtain ⟨t2, ht2⟩ := hxs.get (i + 1) (xs[i + 1]'hi2) (List.getElem?_eq_getElem hi2)
            refine item_list (Heap.IsList.keeps' hla F5.keep) (by omega) (by omega) (x := .str (xs[i + 1]'hi2) t2) (by rw [show ((i : Int) + 1).toNat = i + 1 by omega]; simpa using ht2) ?_
            walk_at "mwalkW"
            · have hq : (xs[i + 1] == xs[i]) = true := by assumption
              exact absurd (eq_of_beq hq) (hxn i hi2)
            · exact ⟨h8, tk8, _, _, (xs.length - (i + 1)) + (ys.length - j), rfl, F5, N5, by omega, i + 1, j, _, tj, M ++ [xs[i]], U, VM ++ [_], VU, km + 1, ku, rfl, by omega, hj, by walk_at "mlook", by walk_at "mlook", by walk_at "mlook", by walk_at "mlook", by walk_at "mlook", by walk_at "mlook", rfl, strsSnoc hM _ _, hU, by rw [List.length_append]; simp only [List.length_singleton]; omega, hUl, hMe2, hUe2⟩
          · have hsz : va.toArray.size = xs.length := by simpa using hxl
            refine item_outK (by assumption) (Heap.IsList.keeps' hla F5.keep) (.inr (by omega)) (by omega) (by omega) ?_
            intro h3 tk3 e3 hX
            dsimp only at hX
            obtain ⟨ob, t0, he, hcls, hdo⟩ := hX.there
            exact hE _ _ ⟨e3, h3, _, _, i + 1, j, _, tj, M ++ [xs[i]], U, VM ++ [_], VU, km + 1, ku, frs, rfl, rfl, by omega, hj, SameUp.refl _, Fs, by walk_at "mlook", by walk_at "mlook", by walk_at "mlook", by walk_at "mlook", by walk_at "mlook", by walk_at "mlook", strsSnoc hM _ _, hU, by rw [List.length_append]; simp only [List.length_singleton]; omega, hUl,
              by rw [List.drop_eq_nil_of_le (by omega), dif_nil] at hMe2; rw [List.drop_eq_nil_of_le (by omega)]; exact hMe2, by rw [List.drop_eq_nil_of_le (as := xs) (by omega), dif_self] at hUe2; exact hUe2, .inl ⟨ob, _, frExt F5 hX.keeps, newsAdd F5 N5 hX.keeps hX.new he, hcls, hdo, rfl⟩⟩
        · rename Fr _ _ _ _ => F4
          rename News _ _ _ _ => N4
          refine While_inv2 (J := fun n m nw => n = 0 ∧ m = _ ∧ nw = _) (n₀ := 0) F4 N4 ⟨rfl, rfl, rfl⟩ ?_ (by passes_own)
          rintro n m2 nw2 h8 tk8 F5 N5 ⟨rfl, rfl, rfl⟩
          clear F4 N4
          have hlt : ys[j].cps.toList < xs[i].cps.toList := by assumption
          have hd1 : xs.drop i = xs[i] :: xs.drop (i + 1) := List.drop_eq_getElem_cons hil
          have hd2 : ys.drop j = ys[j] :: ys.drop (j + 1) := List.drop_eq_getElem_cons hjl
          have hnl : ¬ xs[i].cps.toList < ys[j].cps.toList := fun q => absurd (List.lt_trans hlt q) (List.lt_irrefl _)
          have hUe2 : (U ++ [ys[j]]) ++ dif (ys.drop (j + 1)) (xs.drop i) = dif ys xs := by
            rw [← hUe, hd1, hd2, dif_cons, if_pos hlt, List.append_assoc]; rfl
          have hMe2 : M ++ dif (xs.drop i) (ys.drop (j + 1)) = dif xs ys := by
            rw [← hMe, hd1, hd2, dif_cons, if_neg hnl, if_pos hlt]
          walk_at "mwalkW"
          rename News _ _ _ _ => N5
          rw [List.push_toArray] at N5
          by_cases hi2 : j + 1 < ys.length
          · obtain ⟨t2, ht2⟩ := hys.get (j + 1) (ys[j + 1]'hi2) (List.getElem?_eq_getElem hi2)
            refine item_list (Heap.IsList.keeps' hlb F5.keep) (by omega) (by omega) (x := .str (ys[j + 1]'hi2) t2) (by rw [show ((j : Int) + 1).toNat = j + 1 by omega]; simpa using ht2) ?_
            walk_at "mwalkW"
            · have hq : (ys[j + 1] == ys[j]) = true := by assumption
              exact absurd (eq_of_beq hq) (hyn j hi2)
            · exact ⟨h8, tk8, _, _, (xs.length - i) + (ys.length - (j + 1)), rfl, F5, N5, by omega, i, j + 1, ti, _, M, U ++ [ys[j]], VM, VU ++ [_], km, ku + 1, rfl, hi, by omega, by walk_at "mlook", by walk_at "mlook", by walk_at "mlook", by walk_at "mlook", by walk_at "mlook", by walk_at "mlook", rfl, hM, strsSnoc hU _ _, hMl, by rw [List.length_append]; simp only [List.length_singleton]; omega, hMe2, hUe2⟩
          · have hsz : vb.toArray.size = ys.length := by simpa using hyl
            refine item_outK (by assumption) (Heap.IsList.keeps' hlb F5.keep) (.inr (by omega)) (by omega) (by omega) ?_
            intro h3 tk3 e3 hX
            dsimp only at hX
            obtain ⟨ob, t0, he, hcls, hdo⟩ := hX.there
            exact hE _ _ ⟨e3, h3, _, _, i, j + 1, ti, _, M, U ++ [ys[j]], VM, VU ++ [_], km, ku + 1, frs, rfl, rfl, hi, by omega, SameUp.refl _, Fs, by walk_at "mlook", by walk_at "mlook", by walk_at "mlook", by walk_at "mlook", by walk_at "mlook", by walk_at "mlook", hM, strsSnoc hU _ _, hMl, by rw [List.length_append]; simp only [List.length_singleton]; omega,
              by rw [List.drop_eq_nil_of_le (as := ys) (by omega), dif_self] at hMe2; exact hMe2, by rw [List.drop_eq_nil_of_le (as := ys) (by omega), dif_nil] at hUe2; rw [List.drop_eq_nil_of_le (by omega)]; exact hUe2, .inl ⟨ob, _, frExt F5 hX.keeps, newsAdd F5 N5 hX.keeps hX.new he, hcls, hdo, rfl⟩⟩
        · rename Fr _ _ _ _ => F4
          rename News _ _ _ _ => N4
          have hnl1 : ¬ xs[i].cps.toList < ys[j].cps.toList := by assumption
          have hnl2 : ¬ ys[j].cps.toList < xs[i].cps.toList := by assumption
          have hd1 : xs.drop i = xs[i] :: xs.drop (i + 1) := List.drop_eq_getElem_cons hil
          have hd2 : ys.drop j = ys[j] :: ys.drop (j + 1) := List.drop_eq_getElem_cons hjl
          have hMe2 : M ++ dif (xs.drop (i + 1)) (ys.drop (j + 1)) = dif xs ys := by
            rw [← hMe, hd1, hd2, dif_cons, if_neg hnl1, if_neg hnl2]
          have hUe2 : U ++ dif (ys.drop (j + 1)) (xs.drop (i + 1)) = dif ys xs := by
            rw [← hUe, hd1, hd2, dif_cons, if_neg hnl2, if_neg hnl1]
          refine While_inv2 (J := fun n m nw => n = 0 ∧ m = _ ∧ nw = _) (n₀ := 0) F4 N4 ⟨rfl, rfl, rfl⟩ ?_ (by passes_own)
          rintro n m2 nw2 h8 tk8 F5 N5 ⟨rfl, rfl, rfl⟩
          clear F4 N4
          walk_at "mwalkW"
          rename News _ _ _ _ => N5
          by_cases hi2 : i + 1 < xs.length
          · obtain ⟨t2, ht2⟩ := hxs.get (i + 1) (xs[i + 1]'hi2) (List.getElem?_eq_getElem hi2)
            refine item_list (Heap.IsList.keeps' hla F5.keep) (by omega) (by omega) (x := .str (xs[i + 1]'hi2) t2) (by rw [show ((i : Int) + 1).toNat = i + 1 by omega]; simpa using ht2) ?_
            walk_at "mwalkW"
            · have hq : (xs[i + 1] == xs[i]) = true := by assumption
              exact absurd (eq_of_beq hq) (hxn i hi2)
            · rename Fr _ _ _ _ => F6
              rename News _ _ _ _ => N6
              refine While_inv2 (J := fun n m nw => n = 0 ∧ m = _ ∧ nw = _) (n₀ := 0) F6 N6 ⟨rfl, rfl, rfl⟩ ?_ (by passes_own)
              rintro n m2 nw2 h9 tk9 F7 N7 ⟨rfl, rfl, rfl⟩
              clear F6 N6
              walk_at "mwalkW"
              rename News _ _ _ _ => N7
              by_cases hj2 : j + 1 < ys.length
              · obtain ⟨t3, ht3⟩ := hys.get (j + 1) (ys[j + 1]'hj2) (List.getElem?_eq_getElem hj2)
                refine item_list (Heap.IsList.keeps' hlb F7.keep) (by omega) (by omega) (x := .str (ys[j + 1]'hj2) t3) (by rw [show ((j : Int) + 1).toNat = j + 1 by omega]; simpa using ht3) ?_
                walk_at "mwalkW"
                · have hq : (ys[j + 1] == ys[j]) = true := by assumption
                  exact absurd (eq_of_beq hq) (hyn j hj2)
                · exact ⟨h9, tk9, _, _, (xs.length - (i + 1)) + (ys.length - (j + 1)), rfl, F7, N7, by omega, i + 1, j + 1, _, _, M, U, VM, VU, km, ku, rfl, by omega, by omega, by walk_at "mlook", by walk_at "mlook", by walk_at "mlook", by walk_at "mlook", by walk_at "mlook", by walk_at "mlook", rfl, hM, hU, by omega, by omega, hMe2, hUe2⟩
              · have hsz : vb.toArray.size = ys.length := by simpa using hyl
                refine item_outK (by assumption) (Heap.IsList.keeps' hlb F7.keep) (.inr (by omega)) (by omega) (by omega) ?_
                intro h3 tk3 e3 hX
                dsimp only at hX
                obtain ⟨ob, t0, he, hcls, hdo⟩ := hX.there
                have N3 := newsAdd F7 N7 hX.keeps hX.new he
                have hA := twoApart N3 Fs hcls
                refine noteFresh (Around.frames_deeper hfr) Fs hcls hdo rfl (frExt F7 hX.keeps) (new := [_, _]) N3 hA.1 hA.2 ?_
                intro h4 tb oe' otb frs' SU Fs' H4 _
                refine H4.came ?_
                intro h5 otb' H5
                exact hE _ _ ⟨e3, h5, _, _, i + 1, j + 1, _, _, M, U, VM, VU, km, ku, frs', rfl, rfl, by omega, by omega, SU, Fs', by walk_at "mlook", by walk_at "mlook", by walk_at "mlook", by walk_at "mlook", by walk_at "mlook", by walk_at "mlook", hM, hU, by omega, by omega, by rw [List.drop_eq_nil_of_le (as := ys) (by omega), dif_self] at hMe2; exact hMe2, by rw [List.drop_eq_nil_of_le (as := ys) (by omega), dif_nil] at hUe2; rw [List.drop_eq_nil_of_le (by omega)]; exact hUe2, .inr ⟨tb, oe', otb', H5⟩⟩
          · have hsz : va.toArray.size = xs.length := by simpa using hxl
            refine item_outK (by assumption) (Heap.IsList.keeps' hla F5.keep) (.inr (by omega)) (by omega) (by omega) ?_
            intro h3 tk3 e3 hX
            dsimp only at hX
            obtain ⟨ob, t0, he, hcls, hdo⟩ := hX.there
            have N3 := newsAdd F5 N5 hX.keeps hX.new he
            have hA := twoApart N3 Fs hcls
            refine noteFresh (Around.frames_deeper hfr) Fs hcls hdo rfl (frExt F5 hX.keeps) (new := [_, _]) N3 hA.1 hA.2 ?_
            intro h4 tb oe' otb frs' SU Fs' H4 hk2
            refine ⟨ref_ne_byPass _, ?_⟩
            refine H4.again ?_
            refine H4.land none fun h5 otb' H5 => ?_
            have F8 := H5.fr
            have N8 := H5.news
            clear N3 F5 N5
            walk_at "mwalkW"
            rename Fr _ _ _ _ => F9
            rename News _ _ _ _ => N9
            refine While_inv2 (J := fun n m nw => n = 0 ∧ m = _ ∧ nw = _) (n₀ := 0) F9 N9 ⟨rfl, rfl, rfl⟩ ?_ (by passes_own)
            rintro n m2 nw2 h9 tk9 F10 N10 ⟨rfl, rfl, rfl⟩
            clear F9 N9
            walk_at "mwalkW"
            rename News _ _ _ _ => N10
            by_cases hj2 : j + 1 < ys.length
            · obtain ⟨t3, ht3⟩ := hys.get (j + 1) (ys[j + 1]'hj2) (List.getElem?_eq_getElem hj2)
              refine item_list (Heap.IsList.keeps' hlb F10.keep) (by omega) (by omega) (x := .str (ys[j + 1]'hj2) t3) (by rw [show ((j : Int) + 1).toNat = j + 1 by omega]; simpa using ht3) ?_
              walk_at "mwalkW"
              · have hq : (ys[j + 1] == ys[j]) = true := by assumption
                exact absurd (eq_of_beq hq) (hyn j hj2)
              · refine Noted.pass (e := e3) (tb := tb) (oe := oe') (otb := otb') (fl := .none) (rest := _) ⟨F10, N10, H5.cls, H5.at1, H5.at3, H5.tne, H5.off⟩ ?_
                intro h11 otb2 H11
                exact hE _ _ ⟨e3, h11, _, _, i + 1, j + 1, _, _, M, U, VM, VU, km, ku, frs', rfl, rfl, by omega, by omega, SU, Fs', by walk_at "mlook", by walk_at "mlook", by walk_at "mlook", by walk_at "mlook", by walk_at "mlook", by walk_at "mlook", hM, hU, by omega, by omega, by rw [List.drop_eq_nil_of_le (as := xs) (by omega), dif_nil] at hMe2; rw [List.drop_eq_nil_of_le (by omega)]; exact hMe2, by rw [List.drop_eq_nil_of_le (as := xs) (by omega), dif_self] at hUe2; exact hUe2, .inr ⟨tb, oe', otb2, H11⟩⟩
            · have hsz2 : vb.toArray.size = ys.length := by simpa using hyl
              obtain ⟨vs2, hd2', _⟩ := H5.at1
              have h22 : vs2[2]? = some .none := hk2 2 (by decide) vs2 hd2'
              refine itemOutH (x := e3) rfl (News.get N10 (.head _)) hd2' h22 (Heap.IsList.keeps' hlb F10.keep) (by omega) (by omega) (by omega) ?_
              intro h12 tk12 e4 hX4
              dsimp only at hX4
              obtain ⟨ob4, t4, he4, hcls4, hdo4⟩ := hX4.there
              have N4 := newsAdd F10 (newsSub (led := [(lu, W.listOf VU.toArray ku), (lm, W.listOf VM.toArray km)] ++ frs') N10 fun p hp => .tail _ (.tail _ hp)) hX4.keeps hX4.new he4
              have hA4 := twoApart N4 Fs' hcls4
              refine noteFresh (l := l) (by exact Around.frames_deeper hfr) Fs' hcls4 hdo4 rfl (frExt F10 hX4.keeps) (new := [_, _]) N4 hA4.1 hA4.2 ?_
              intro h13 tb4 oe4 otb4 frs4 SU4 Fs4 H13 _
              refine H13.came ?_
              intro h14 otb5 H14
              exact hE _ _ ⟨e4, h14, _, _, i + 1, j + 1, _, _, M, U, VM, VU, km, ku, frs4, rfl, rfl, by omega, by omega, SU.trans SU4, Fs4, by walk_at "mlook", by walk_at "mlook", by walk_at "mlook", by walk_at "mlook", by walk_at "mlook", by walk_at "mlook", hM, hU, by omega, by omega, by rw [List.drop_eq_nil_of_le (as := ys) (by omega), dif_self] at hMe2; exact hMe2, by rw [List.drop_eq_nil_of_le (as := ys) (by omega), dif_nil] at hUe2; rw [List.drop_eq_nil_of_le (by omega)]; exact hUe2, .inr ⟨tb4, oe4, otb5, H14⟩⟩
      · have hsz : vb.toArray.size = ys.length := by simpa using hyl
        refine item_outK (by assumption) (Heap.IsList.keeps' hlb F2.keep) (.inr (by omega)) (by omega) (by omega) ?_
        intro h3 tk3 e3 hX
        dsimp only at hX
        obtain ⟨ob, t0, he, hcls, hdo⟩ := hX.there
        exact hE _ _ ⟨e3, h3, _, _, i, j, ti, tj, M, U, VM, VU, km, ku, frs, rfl, rfl, hi, hj, SameUp.refl _, Fs, by walk_at "mlook", by walk_at "mlook", by walk_at "mlook", by walk_at "mlook", by walk_at "mlook", by walk_at "mlook", hM, hU, hMl, hUl, by rw [List.drop_eq_nil_of_le (as := ys) (by omega), dif_self] at hMe; exact hMe, by rw [List.drop_eq_nil_of_le (as := ys) (by omega), dif_nil] at hUe; rw [List.drop_eq_nil_of_le (by omega)]; exact hUe, .inl ⟨ob, _, frExt F2 hX.keeps, newsAdd F2 N2 hX.keeps hX.new he, hcls, hdo, rfl⟩⟩
    · have hsz : va.toArray.size = xs.length := by simpa using hxl
      refine item_outK (by assumption) (Heap.IsList.keeps' hla F.keep) (.inr (by omega)) (by omega) (by omega) ?_
      intro h3 tk3 e3 hX
      dsimp only at hX
      obtain ⟨ob, t0, he, hcls, hdo⟩ := hX.there
      exact hE _ _ ⟨e3, h3, _, m₁, i, j, ti, tj, M, U, VM, VU, km, ku, frs, rfl, rfl, hi, hj, SameUp.refl _, Fs, ei, ej, em, eu, ee, ea, hM, hU, hMl, hUl, by rw [List.drop_eq_nil_of_le (by omega), dif_nil] at hMe; rw [List.drop_eq_nil_of_le (by omega)]; exact hMe, by rw [List.drop_eq_nil_of_le (as := xs) (by omega), dif_self] at hUe; exact hUe, .inl ⟨ob, _, frExt F hX.keeps, newsAdd F N hX.keeps hX.new he, hcls, hdo, rfl⟩⟩
  · passes_own
end
end Mine
end

section
open PySem PySem.W PySem.Calls PyProof.Rows PySem.SeqAt PyProof.Rows.TI
namespace Mine
theorem goneKeeps {h₀ h : Heap} {L : Addr} {m : Str → Option Value} (F : Fr h₀ L h m) : ∀ b o, h₀.get? b = some o → (gone h [L]).get? b = some o := fun b o e => by
  refine (gone_get fun hm => ?_).trans (F.keep b o e)
  rw [List.mem_singleton.mp hm, Heap.get?_none_of_le F.above] at e
  cases e
theorem goneList {h₀ h : Heap} {L a : Addr} {news : List (Addr × Obj)} {items : Array Value} {n : Nat} (N : News h₀ L h news) (hm : (a, ({ cls := .type "list", data := .seq items n } : Obj)) ∈ news) : (gone h [L]).IsList a items :=
  ⟨_, (gone_get fun hx => (N _ hm).2.1 (List.mem_singleton.mp hx)).trans (N _ hm).1, rfl, _, rfl⟩
theorem callDiff {w : World} {A : Around} {s : Shared} {mean : ExcName → Option Value} {mg mb : Str → Option Value} {E Q : Value → Shared → Prop} {env : Env} {h₀ : Heap} {L : Addr} {m : Str → Option Value} {news : List (Addr × Obj)} {la lb : Addr} {va vb : List Value} {na nb : Nat} {xs ys : List Str}
    (hd : A.depth < 430) (hh : A.handled = none) (hfr : A.frames = some [env]) (hkind : env.scope.kind ≠ .module) (hframe : env.frame = some L)
    (F : Fr h₀ L s.heap m) (N : News h₀ L s.heap news) (X : (topk.heap_39 w.params).In h₀) (T : Top VW LO mean mg mb h₀)
    (hla : (la, ({ cls := .type "list", data := .seq va.toArray na } : Obj)) ∈ news) (hlb : (lb, ({ cls := .type "list", data := .seq vb.toArray nb } : Obj)) ∈ news) (hxs : StrsAre va xs) (hys : StrsAre vb ys) (hx1 : xs.length ≤ 20) (hy1 : ys.length ≤ 20)
    (hxn : ∀ i (h : i + 1 < xs.length), xs[i + 1] ≠ xs[i]) (hyn : ∀ i (h : i + 1 < ys.length), ys[i + 1] ≠ ys[i])
    (h : ∀ h' tk' D oD lm lu U, Fr h₀ L h' m → News h₀ L h' (U ++ news) → (D, oD) ∈ U → oD.cls = .type "tuple" → (∃ n, oD.data = .seq #[.ref lm, .ref lu] n) → SN U (.ref lm) (dif xs ys) → SN U (.ref lu) (dif ys xs) → Q (.ref D) { s with heap := h', toks := tk' }) :
    wpAny (model PP w) A (call (.ref 143) [.ref la, .ref lb]) Q E s := by
  obtain ⟨oL, es, ep, hL, hLd, hLk, hLf⟩ := id F.ns
  have kg := goneKeeps F
  refine wpAny_call (diff_spec (hb := gone s.heap [L]) (frs := [(L, oL)]) hd hh hfr ⟨hkind, hframe, ⟨es, ep, hLd⟩, trivial⟩ (fun b o e => (gone_some e).2) (by
    show ((gone s.heap []).update L _).objs.size ≤ _
    rw [Heap.size_update]; exact Nat.le_refl _) (fun p hp => by
      rw [List.mem_singleton.mp hp]
      exact ⟨hL, gone_none (List.mem_singleton.mpr rfl)⟩) (X.keeps kg) (Top.keeps T kg) (goneList N hla) (goneList N hlb) hxs hys hx1 hy1 hxn hyn ?_)
  intro h' tk' D lm lu VM VU frs' K SU hfrs hT hN hM hU hMS hUS
  obtain ⟨sl, rfl⟩ := TLg.one_up SU
  have hL' := hfrs _ (List.mem_singleton.mpr rfl)
  obtain ⟨oD, hoD, hcD, hdD⟩ := hT
  obtain ⟨oM, hoM, hcM, nM, hdM⟩ := hM
  obtain ⟨oU, hoU, hcU, nU, hdU⟩ := hU
  have nL : ∀ (a : Addr) (o : Obj), h'.get? a = some o → o.cls ≠ ({ oL with slots := sl } : Obj).cls ∨ (∀ es n, o.data ≠ .dict es n) → a ≠ L := fun a o e hc q => by
    rw [q, hL'] at e
    have e' := Option.some.inj e
    rcases hc with hc | hc
    · exact hc (by rw [← e'])
    · exact hc es ep (by rw [← e']; exact hLd)
  have fr : ∀ a, (gone s.heap [L]).get? a = none → h₀.get? a = none := fun a e => none_of kg e
  refine h h' tk' D oD lm lu [(D, oD), (lm, oM), (lu, oU)] ⟨⟨_, es, ep, hL', hLd, hLk, hLf⟩, fun b o e => K b o (kg b o e), F.above⟩ ?_ (.head _) hcD hdD ⟨lm, oM, VM, nM, rfl, .tail _ (.head _), hcM, hdM, hMS⟩ ⟨lu, oU, VU, nU, rfl, .tail _ (.tail _ (.head _)), hcU, hdU, hUS⟩
  intro p hp
  simp only [List.cons_append, List.nil_append, List.mem_cons] at hp
  rcases hp with rfl | rfl | rfl | hp
  · obtain ⟨n, hdD⟩ := hdD
    exact ⟨hoD, nL _ _ hoD (.inr fun es n q => by rw [hdD] at q; cases q), fr _ hN.1⟩
  · exact ⟨hoM, nL _ _ hoM (.inr fun es n q => by rw [hdM] at q; cases q), fr _ hN.2.1⟩
  · exact ⟨hoU, nL _ _ hoU (.inr fun es n q => by rw [hdU] at q; cases q), fr _ hN.2.2⟩
  · have z := N p hp
    exact ⟨K _ _ ((gone_get fun hx => z.2.1 (List.mem_singleton.mp hx)).trans z.1), z.2⟩
/-- the lists that are asked for in the end -/
theorem eqPair {A : Around} {s : Shared} {D t lm lu g c : Addr} {xs ys : List Str} (hD : IsTup s.heap D #[.ref lm, .ref lu]) (ht : IsTup s.heap t #[.ref g, .ref c]) (h1 : SL s.heap (.ref lm) xs) (h2 : SL s.heap (.ref g) xs) (h3 : SL s.heap (.ref lu) ys) (h4 : SL s.heap (.ref c) ys) (hu : A.units < cLine) (hu' : A.in1.units < cLine) : RcAt A s (.ref D) (.ref t) true := by
  have := RcAt.tuples (A := A) (e := fun _ => true) hD ht hu fun j g1 g2 => by
    rcases j with _ | _ | j
    · exact eqSL h1 h2 hu'
    · exact eqSL h3 h4 hu'
    · exact absurd g1 (by simp)
  exact this
theorem sliceLastAny {prog : Program} {w : World} {A : Around} {E : Value → Shared → Prop} {s : Shared} {h₀ : Heap} {L : Addr} {m : Str → Option Value} {news : List (Addr × Obj)} {value slice : Expr} {l : Addr} {vs : List Value} {t : Tok} {Q : Value → Shared → Prop}
    (F : Fr h₀ L s.heap m) (N : News h₀ L s.heap news) (hl : s.heap.IsList l vs.toArray) (hz : vs.length ≤ 30)
    (h : ∀ D h', Fr h₀ L h' m → News h₀ L h' ((D, W.listOf (vs.take (vs.length - 1)).toArray 0) :: news) → Q (.ref D) { s with heap := h' })
    (hs : subscripted slice false (.ref l) (.ref s.heap.objs.size) = operate [.ref s.heap.objs.size, .ref l] (getItem (.ref l) (.ref s.heap.objs.size))) :
    wpAny (model prog w) A (subscriptTail value slice (.ref l) (.ref s.heap.objs.size)) Q E { s with heap := s.heap.push { cls := .type "slice", data := .fields #[.none, .int (-1) t, .none] } } := by
  refine tail_any (Heap.IsList.typeIs (s := { s with heap := s.heap.push { cls := .type "slice", data := .fields #[.none, .int (-1) t, .none] } }) (hl.push _)) list_getitem_lookup
    (wpAny_getItem_list_slice (hl.push _) (Heap.IsSliceOf.new ..) .none (.int (-1) t) .none (by simp) ?_ (by rw [sizeLine_eq, List.size_toArray]; exact Nat.le_trans hz (by decide))) hs
  have e := slicePick_butLast vs.toArray 1 (Nat.le_refl _)
  rw [show (some (-(((1 : Nat) : Int))) : Option Int) = some (-1) from rfl] at e
  rw [e]
  have N1 := News.push (F.push { cls := .type "slice", data := .fields #[.none, .int (-1) t, .none] }) (N.grown fun _ _ e => Heap.get?_push_of_some _ e) { cls := .type "list", data := .seq (vs.toArray.toList.take (vs.toArray.size - 1)).toArray }
  exact h _ _ ((F.push _).push _) (by simpa [W.listOf] using N1)
theorem newsFifth {h₀ h : Heap} {L : Addr} {g a b c d : Addr × Obj} {V : List (Addr × Obj)} (N : News h₀ L h (g :: a :: b :: c :: d :: V)) : News h₀ L h (a :: b :: c :: d :: (g :: V)) := newsSub N fun p hp => by
  simp only [List.mem_cons] at hp ⊢
  rcases hp with e | e | e | e | e | e <;> simp [e]
end Mine
end

section
open PySem PySem.W PySem.Calls PyProof.Rows PySem.SeqAt
namespace Mine
/-- a row as it is sent, of an attachment -/
def sentOf (x : Att) : Str := Tx.mkS (escT (rowT x.1 x.2))
theorem sentOf_inj {x y : Att} (hx : AttOk x) (hy : AttOk y) (e : sentOf x = sentOf y) : x = y := by
  obtain ⟨x1, o⟩ := x
  obtain ⟨y1, p⟩ := y
  have cx : 58 ∉ x1 := fun h => (hx.1.1 58 h).2.2 rfl
  have cy : 58 ∉ y1 := fun h => (hy.1.1 58 h).2.2 rfl
  have e' : Tx.mkS (escT (rowT x1 o)) = Tx.mkS (escT (rowT y1 p)) := e
  have key : (Tx.mkS x1, Tx.mkS [58], Tx.mkS (encT o)) = (Tx.mkS y1, Tx.mkS [58], Tx.mkS (encT p)) := by
    rcases read_cases (o := o) cx with ⟨a, b⟩ | ⟨a, b⟩ <;> rcases read_cases (o := p) cy with ⟨c, d⟩ | ⟨c, d⟩
    · rw [← b, ← d, e']
    · rw [e', c] at a; cases a
    · rw [e', c] at a; cases a
    · rw [← b, ← d, e']
  injection key with k1 k2
  injection k2 with _ k3
  have h1 : x1 = y1 := by simpa using congrArg (fun z : Str => z.cps.toList) k1
  have h2 : encT o = encT p := by simpa using congrArg (fun z : Str => z.cps.toList) k3
  have h3 : enc o = enc p := by rw [← encT_b64 o, ← encT_b64 p, h2]
  obtain ⟨q, d, r, e1, _⟩ := dec_enc (l := o) hx.2.1
  obtain ⟨q', d', r', e2, _⟩ := dec_enc (l := p) hy.2.1
  rw [h3, e2] at e1
  have h4 : p = o := (Prod.mk.inj e1).1
  rw [h1, h4]
/-- the order of texts -/
def SLt (a b : Str) : Prop := a.cps.toList < b.cps.toList
theorem SLt.irrefl (a : Str) : ¬ SLt a a := List.lt_irrefl _
theorem SLt.trans {a b c : Str} (h : SLt a b) (k : SLt b c) : SLt a c := List.lt_trans h k
theorem SLt.asymm {a b : Str} (h : SLt a b) : ¬ SLt b a := fun k => SLt.irrefl _ (h.trans k)
theorem SLt.ne {a b : Str} (h : SLt a b) : a ≠ b := fun e => SLt.irrefl b (e ▸ h)
theorem str_ext {a b : Str} (h : a.cps.toList = b.cps.toList) : a = b := by
  cases a; cases b; simpa using h
theorem SLt.tri {a b : Str} (h : ¬ SLt a b) (k : ¬ SLt b a) : a = b := str_ext (List.le_antisymm (List.not_lt.mp k) (List.not_lt.mp h))
theorem SLt.conn {a b : Str} (h : ¬ SLt b a) (k : a ≠ b) : SLt a b := Classical.byContradiction fun n => k (SLt.tri n h)
theorem rising_lt : ∀ (r : List Str) (p : Str), (p :: r).Nodup → risingS p r = true → (p :: r).Pairwise SLt
  | [], p, _, _ => List.pairwise_singleton ..
  | x :: r, p, hn, h => by
    simp only [risingS, Bool.and_eq_true, Bool.not_eq_true', ltCps_eq, decide_eq_false_iff_not] at h
    have hn2 := (List.nodup_cons.mp hn).2
    have ih := rising_lt r x hn2 h.2
    have hpx : SLt p x := SLt.conn h.1 fun e => (List.nodup_cons.mp hn).1 (e ▸ List.mem_cons_self ..)
    refine List.pairwise_cons.mpr ⟨fun y hy => ?_, ih⟩
    rcases List.mem_cons.mp hy with rfl | hy
    · exact hpx
    · exact hpx.trans ((List.pairwise_cons.mp ih).1 y hy)
theorem sorted_lt {l : List Str} (hn : l.Nodup) (h : sortedS l = true) : l.Pairwise SLt := by
  cases l with
  | nil => exact List.Pairwise.nil
  | cons p r => exact rising_lt r p hn h
/-- lists in order that hold the same are the same -/
theorem lt_unique : ∀ {l k : List Str}, l.Pairwise SLt → k.Pairwise SLt → l.Perm k → l = k
  | [], k, _, _, p => (List.nil_perm.mp p).symm
  | a :: l, [], _, _, p => absurd p.symm (by intro q; exact absurd (List.nil_perm.mp q) (by simp))
  | a :: l, b :: k, hl, hk, p => by
    have hab : a = b := by
      have h1 : a ∈ b :: k := p.subset (List.mem_cons_self ..)
      have h2 : b ∈ a :: l := p.symm.subset (List.mem_cons_self ..)
      rcases List.mem_cons.mp h1 with e | h1
      · exact e
      · rcases List.mem_cons.mp h2 with e | h2
        · exact e.symm
        · exact absurd ((List.pairwise_cons.mp hk).1 a h1) (SLt.asymm ((List.pairwise_cons.mp hl).1 b h2))
    subst hab
    rw [lt_unique (List.pairwise_cons.mp hl).2 (List.pairwise_cons.mp hk).2 ((List.perm_cons a).mp p)]
theorem dif_filter : ∀ (n : Nat) (xs ys : List Str), xs.length + ys.length ≤ n → xs.Pairwise SLt → ys.Pairwise SLt → dif xs ys = xs.filter (fun x => decide (x ∉ ys))
  | _, [], ys, _, _, _ => by rw [dif_nil]; rfl
  | _, e :: a, [], _, _, _ => by
    rw [dif_self]
    exact (List.filter_eq_self.mpr (by simp)).symm
  | 0, e :: a, f :: b, h, _, _ => by simp at h
  | n + 1, e :: a, f :: b, h, hx, hy => by
    have hx' := List.pairwise_cons.mp hx
    have hy' := List.pairwise_cons.mp hy
    rw [dif_cons]
    simp only [List.length_cons] at h
    by_cases h1 : e.cps.toList < f.cps.toList
    · rw [if_pos h1, dif_filter n a (f :: b) (by simp only [List.length_cons]; omega) hx'.2 hy]
      have hne : e ∉ f :: b := fun hm => by
        rcases List.mem_cons.mp hm with rfl | hm
        · exact SLt.irrefl e h1
        · exact SLt.irrefl e (SLt.trans h1 (hy'.1 e hm))
      rw [List.filter_cons_of_pos (by simpa using hne)]
    · rw [if_neg h1]
      by_cases h2 : f.cps.toList < e.cps.toList
      · rw [if_pos h2, dif_filter n (e :: a) b (by simp only [List.length_cons]; omega) hx hy'.2]
        refine List.filter_congr fun x hm => ?_
        have hlt : SLt f x := by
          rcases List.mem_cons.mp hm with rfl | hm
          · exact h2
          · exact SLt.trans h2 (hx'.1 x hm)
        have hne : x ≠ f := fun e => SLt.irrefl f (e ▸ hlt)
        simp [hne]
      · rw [if_neg h2, dif_filter n a b (by omega) hx'.2 hy'.2]
        have hef : e = f := SLt.tri h1 h2
        subst hef
        rw [List.filter_cons_of_neg (by simp)]
        refine List.filter_congr fun x hm => ?_
        have hne : x ≠ e := fun q => SLt.irrefl e (q ▸ hx'.1 x hm)
        simp [hne]
theorem nodup_map {a : List Att} (h : MailOk a) : (a.map sentOf).Nodup := by
  obtain ⟨hn, hok⟩ := h
  induction a with
  | nil => exact List.nodup_nil
  | cons x r ih =>
    have hn' := List.nodup_cons.mp hn
    refine List.nodup_cons.mpr ⟨fun hm => ?_, ih hn'.2 fun y hy => hok y (.tail _ hy)⟩
    obtain ⟨y, hy, e⟩ := List.mem_map.mp hm
    exact hn'.1 (sentOf_inj (hok y (.tail _ hy)) (hok x (.head _)) e ▸ hy)
theorem sent_mem {a : List Att} {x : Att} (h : ∀ y ∈ a, AttOk y) (hx : AttOk x) : sentOf x ∈ a.map sentOf ↔ x ∈ a := by
  constructor
  · intro hm
    obtain ⟨y, hy, e⟩ := List.mem_map.mp hm
    exact sentOf_inj (h y hy) hx e ▸ hy
  · exact fun hm => List.mem_map.mpr ⟨x, hm, rfl⟩
theorem filter_sent {b : List Att} (hb : ∀ y ∈ b, AttOk y) : ∀ (a : List Att), (∀ y ∈ a, AttOk y) → (a.map sentOf).filter (fun x => decide (x ∉ b.map sentOf)) = (a.filter (fun x => decide (x ∉ b))).map sentOf
  | [], _ => rfl
  | x :: a, ha => by
    have hx := ha x (.head _)
    have ih := filter_sent hb a fun y hy => ha y (.tail _ hy)
    rw [List.map_cons]
    by_cases h : x ∈ b
    · rw [List.filter_cons_of_neg (by simpa using (sent_mem hb hx).mpr h), List.filter_cons_of_neg (by simpa using h), ih]
    · rw [List.filter_cons_of_pos (by simpa using fun y hy e => h ((sent_mem hb hx).mp (List.mem_map.mpr ⟨y, hy, e⟩))), List.filter_cons_of_pos (by simpa using h), List.map_cons, ih]
/-- what sorted_list_difference tells of the rows sent -/
theorem dif_law {a b : List Att} {S0 S1 G : List Str} (ha : MailOk a) (hb : MailOk b) (p0 : S0.Perm (a.map sentOf)) (s0 : sortedS S0 = true) (p1 : S1.Perm (b.map sentOf)) (s1 : sortedS S1 = true)
    (pg : G.Perm ((a.filter (fun x => decide (x ∉ b))).map sentOf)) (sg : sortedS G = true) : dif S0 S1 = G := by
  have n0 := p0.nodup_iff.mpr (nodup_map ha)
  have n1 := p1.nodup_iff.mpr (nodup_map hb)
  have l0 := sorted_lt n0 s0
  have l1 := sorted_lt n1 s1
  rw [dif_filter _ S0 S1 (Nat.le_refl _) l0 l1]
  have pf : (S0.filter (fun x => decide (x ∉ S1))).Perm G := by
    refine List.Perm.trans ?_ pg.symm
    rw [← filter_sent hb.2 a ha.2]
    refine List.Perm.trans (p0.filter _) ?_
    rw [List.filter_congr (q := fun x => decide (x ∉ b.map sentOf)) fun x _ => by
      have : x ∈ S1 ↔ x ∈ b.map sentOf := p1.mem_iff
      simp only [this]]
  have lf : (S0.filter (fun x => decide (x ∉ S1))).Pairwise SLt := l0.filter _
  have ng : G.Nodup := pf.nodup_iff.mp (n0.filter _)
  exact lt_unique lf (sorted_lt ng sg) pf
theorem near_ne {S : List Str} (h : S.Nodup) : ∀ i (hi : i + 1 < S.length), S[i + 1] ≠ S[i] := fun i hi e => by
  have h' : S.Pairwise (· ≠ ·) := h
  exact (List.pairwise_iff_getElem.mp h') i (i + 1) (Nat.lt_of_succ_lt hi) hi (Nat.lt_succ_self _) e.symm
end Mine
end

section
example : True := by w_top off; trivial
local macro_rules | `(tactic| walk_at "none0") => `(tactic| fail)
open PySem PySem.W PySem.Calls PyProof.Rows
namespace Mine
example : (topk.heap_39, PySem.Challenge.rw_kq0049_01) = (topk.heap_39, PySem.Challenge.rw_kq0049_01) := by k_fill; rfl
local macro_rules | `(tactic| walk_at "eval Name") => `(tactic| k_extra "u35")
local macro_rules | `(tactic| walk_at "storeName") => `(tactic| k_extra "u36")
example : True := by
  k_with "u35" => ((with_reducible show wpAny _ _ (eval (Expr.Name _ _) (compEnvC _ _ _ _)) _ _ _); k_dflt (first
      | refine cLoc (by k_asm) (by walk_at "mlook") ?_
      | refine LCgL.ld_global (by k_asm) (by assumption) (by assumption) (by k_is) ?_
      | refine LCgL.ld_built (by k_asm) (by assumption) (by assumption) (by k_is) (by boot_by_name) (by decide) ?_
      | refine cCell (by first | assumption | exact Heap.IsCell.keeps (by assumption) (Fr.keep (by assumption))) ?_))
  k_with "u36" => ((with_reducible show wpAny _ _ (storeName (compEnvC _ _ _ _) _ _) _ _ _); k_dflt (refine' stC ?k1 ?k2 ?_ ?k3 ?k4; (case k1 => k_asm); (case k2 => k_asm); (case k3 => rfl); (case k4 => rfl); k_whole); intro _ _ _ _; (try k_sweep))
  trivial
set_option pp.deepTerms false
set_option pp.deepTerms.threshold 4
set_option maxRecDepth 100000
example : True := by
  k_with "mstopA" => ((fail_if_success (with_reducible show wpAny _ _ (call (Value.ref _) _ _) _ _ _)); (fail_if_success (with_reducible show wpAny _ _ (binaryOp Operator.Add (Value.ref _) (Value.ref _)) _ _ _)); (fail_if_success (with_reducible show wpAny _ _ (compareOp _ (Value.ref _) (Value.ref _)) _ _ _)); (fail_if_success (with_reducible show wpAny _ _ (call (Value.builtin "sorted") _) _ _ _)); (fail_if_success (with_reducible show wpAny _ _ (eval (Expr.ListComp _ _ _ _) _) _ _ _)); (fail_if_success (with_reducible show wpAny _ _ (exec (Stmt.Assign _ (Expr.ListComp _ _ _ _) _) _) _ _ _)))
  k_with "mwalkA" => repeat' ((walk_at "mstopA"); first | walk1 | (dsimp only; walk1))
  k_with "mstopC" => ((walk_at "mstopA"); (fail_if_success (with_reducible show wpAny _ _ (subscriptTail _ _ (Value.ref _) (Value.ref _)) _ _ _)))
  k_with "mwalkC" => repeat' ((walk_at "mstopC"); first | walk1 | (dsimp only; walk1))
  k_with "mstopD" => ((walk_at "mstopA"); (fail_if_success (with_reducible show wpAny _ _ (subscriptTail _ _ (Value.ref _) _) _ _ _)); (fail_if_success (with_reducible show wpAny _ _ (call (Value.builtin "len") _) _ _ _)))
  k_with "mwalkD" => repeat' ((walk_at "mstopD"); first | walk1 | (dsimp only; walk1))
  k_with "mstopE" => ((walk_at "mstopD"); (fail_if_success (with_reducible show wpAny _ _ (eval (Expr.Name _ _) (compEnvC _ _ _ _)) _ _ _)))
  k_with "mwalkE" => repeat' ((walk_at "mstopE"); first | walk1 | (dsimp only; walk1))
  k_with "mstopF" => ((walk_at "mstopE"); (fail_if_success (with_reducible show wpAny _ _ (compareOp _ _ (Value.ref _)) _ _ _)))
  k_with "mwalkF" => repeat' ((walk_at "mstopF"); first | walk1 | (dsimp only; walk1))
  trivial
set_option maxHeartbeats 8000000 in
theorem law_holds : PySem.Challenge.rw_kq0049_01.Holds := topk (by
  w_strict (k_go0; (dsimp only); walk_at "mwalkA")
  rename Fr _ _ _ _ => F1
  rename News _ _ _ _ => N1
  rename (topk.heap_39 _).In _ => KX
  rename Top _ _ _ _ _ _ => TT
  rename_i oD oW dD dW X0 D0 ws0 hh1 hIA hCA hLA qA
  have hlen : (List.take 6 _).length ≤ 6 := Nat.le_trans (Nat.le_of_eq hCA) (Nat.min_le_left _ _)
  refine (fun (key : ∀ E : Value → Shared → Prop, wpAny _ _ _ _ E _) => key _) ?_
  intro EE
  refine wpAny_call (law_mails_spec (by show 1 + claimMargin + 1 < 420; decide) (by show 4 + 3 < 1000; decide) rfl (KX.keeps (Fr.keep F1)) (Top.keeps TT (Fr.keep F1)) (News.isList N1 (.head _)) hIA hlen ?_)
  intro h2 tk2 lm m0 m1 a0 a1 U K2 hU hUl hM0 hM1 ok0 ok1 n0 n1
  have F2 := frExt F1 K2
  have N2 : News _ _ h2 (_ :: _ :: _ :: U) := newsMany F1 N1 K2 hU
  have hUD := fun p (hp : p ∈ U) => newNe N1 (.tail _ (.head _)) (hU p hp).2
  have hUW := fun p (hp : p ∈ U) => newNe N1 (.tail _ (.tail _ (.head _))) (hU p hp).2
  clear F1
  have hOk : ∀ i, MailOk (two a0 a1 i) ∧ (two a0 a1 i).length ≤ 14 := fun i => by
    unfold two
    split
    · exact ⟨ok0, n0⟩
    · exact ⟨ok1, n1⟩
  have hMa : ∀ (i : Nat) (v : Value), #[Value.ref m0, Value.ref m1][i]? = some v → MN U v (two a0 a1 i) ∧ MailOk (two a0 a1 i) ∧ (two a0 a1 i).length ≤ 14 := by
    rintro (_ | _ | i) v e
    · have e : Value.ref m0 = v := by simpa using e
      exact e ▸ ⟨hM0, ok0, n0⟩
    · have e : Value.ref m1 = v := by simpa using e
      exact e ▸ ⟨hM1, ok1, n1⟩
    · simp at e
  dsimp only
  refine storeCell (own := []) F2 (newsPick N2) (by rfl) (by rfl) (by rfl) dW (fun p hp => (nomatch hp)) (fun p hp => ?_) (fun h3 oW' dW' F3 N3 => ?_)
  · rcases List.mem_cons.mp hp with e | e
    · rw [e]; exact Nat.ne_of_gt (Nat.lt_succ_self _)
    · exact hUW p e
  clear F2 N2 N1 K2 hU
  walk_at "mwalkC"
  have X3 := KX.keeps (Fr.keep F3)
  have T3 := Top.keeps TT (Fr.keep F3)
  refine compGA (by with_unfolding_all rfl) (by rfl) (by decide) (by rfl) (by decide) ?_
  walk_at "mwalkC"
  refine srcListA (items := #[.ref m0, .ref m1]) rfl (News.isList N3 (.tail _ (.tail _ hUl))) (by rw [sizeLine_eq]; show 2 ≤ _; decide) (JL fun j v nw => SN nw v ((two a0 a1 j).map sentOf ++ [Tx.mkS []])) JL.start (turnName (by rfl) (by rfl) ?_) ?_
  · intro i v ys nw own C h tk m E' hi hP hJ off F N
    dsimp only at F N
    walk_at "mwalkC"
    obtain ⟨mn, ok, len⟩ := hMa i v hP
    obtain ⟨l, its, rfl, M⟩ := mn.at (fun p hp => (N3 p (.tail _ (.tail _ hp))).1)
    refine wpAny_call (law_sent_spec (by show 1 + claimMargin + 1 < 420; decide) rfl (X3.keeps (Fr.keep F)) (Top.keeps T3 (Fr.keep F)) len (fun x hx => ?_) (M.keeps (Fr.keep F)) ?_)
    · have z := ok.2 x hx
      exact ⟨fun c hc => ⟨(z.1.1 c hc).1, (z.1.1 c hc).2.1⟩, z.1.2, z.2.2, z.2.1⟩
    · intro h5 tk5 a ls K5 ha ho hls
      refine EndC.mk' (frExt F K5) (newsAdd F N K5 ha ho) (fun p hp => ?_) (hJ.step (fun j v hx => hx.mono fun p hp => .tail _ hp) ⟨a, _, _, _, rfl, .head _, rfl, rfl, ?_⟩)
      · rcases List.mem_cons.mp hp with e | e
        · rw [e]; exact newOff N ha
        · exact off p e
      · have := strsOf ls
        rw [hls, List.map_map] at this
        exact this
  · intro S C ss nS h tk m' hJ hyl k hD₀ hC₀ hD hn hDC hnw
    dsimp only
    refine bindLocal F3 N3 k hD₀ hC₀ hD hn hDC hnw rfl (by rfl) (by rfl) (fun h4 tk4 F4 N4 => ?_)
    obtain ⟨hyl2, hS⟩ := hJ
    have N5 := newsRot N4
    have hne := neMany (o' := lst ss) N3 (.tail _ (.head _)) hD₀ hnw hUD
    clear N4 F3 N3 X3 T3 k hD₀ hC₀ hD hn hDC hnw hyl hUD hUW
    walk_at "mwalkC"
    clear X0 qA dW oW hlen hIA hCA hLA
    have X4 := KX.keeps (Fr.keep F4)
    have T4 := Top.keeps TT (Fr.keep F4)
    refine wpAny_Assign_Name (hs := by with_unfolding_all rfl) ?_
    refine compG (by rfl) (by decide) (by rfl) (by decide) ?_
    walk_at "mwalkC"
    refine srcList (items := #[.ref m0, .ref m1]) rfl (News.isList N5 (.tail _ (.tail _ (.tail _ (List.mem_append_right _ hUl))))) (by rw [sizeLine_eq]; show 2 ≤ _; decide) (JL fun j v nw => SN nw v ((two a0 a1 j).map sentOf)) JL.start (turnName (by rfl) (by rfl) ?_) ?_
    · intro i v ys nw own C h tk m E' hi hP hJ off F N
      dsimp only at F N
      obtain ⟨mn, ok, len⟩ := hMa i v hP
      obtain ⟨l, its, rfl, M⟩ := mn.at (fun p hp => (N5 p (.tail _ (.tail _ (.tail _ (List.mem_append_right _ hp))))).1)
      have M2 := M.keeps (Fr.keep F)
      have X5 := X4.keeps (Fr.keep F)
      have T5 := Top.keeps T4 (Fr.keep F)
      walk_at "mwalkC"
      refine compP (by rfl) (by decide) (by rfl) (by decide) ?_
      walk_at "mwalkC"
      refine srcListP rfl M2.1 (by rw [sizeLine_eq, M2.2.1]; exact Nat.le_trans len (by decide)) (fun k ys nw => nw = [] ∧ StrsAre ys (((two a0 a1 i).take k).map sentOf)) ⟨rfl, .nil⟩ (fun j v e => ?_) ?_ ?_
      · obtain ⟨v3, e3, t, ta, tb, e4, _⟩ := M2.2.2 j (M2.2.1 ▸ (Array.getElem?_eq_some_iff.mp e).1)
        cases e.symm.trans e3
        exact ⟨t, e4⟩
      · intro i2 v2 ys2 nw2 own2 C2 h2 tk2 m2 E2 hi2 hP2 hJ2 off2 F2 N2
        obtain ⟨v3, e3, hA⟩ := M2.2.2 i2 (M2.2.1 ▸ hi2)
        cases hP2.symm.trans e3
        have hmem := List.getElem_mem (M2.2.1 ▸ hi2 : i2 < (two a0 a1 i).length)
        have htk : (two a0 a1 i).take (i2 + 1) = (two a0 a1 i).take i2 ++ [(two a0 a1 i)[i2]'(M2.2.1 ▸ hi2)] := (List.take_append_getElem (M2.2.1 ▸ hi2)).symm
        generalize (two a0 a1 i)[i2]'(M2.2.1 ▸ hi2) = x at hA hmem htk
        have hx := ok.2 x hmem
        obtain ⟨t, ta, tb, rfl, oT, hoT, hcT⟩ := hA
        have hr1 : (Tx.mkS x.1).length ≤ 100 := by rw [Tx.mkS_len]; exact hx.1.2
        have hr2 : (byteArr x.2).size ≤ 1000 := by rw [byteArr_size]; exact Nat.le_trans hx.2.2 (by decide)
        generalize hr : Tx.mkS x.1 = r at hcT hr1
        generalize hb : byteArr x.2 = b at hcT hr2
        dsimp only at F2 N2
        refine unpackN_ F2 N2 ⟨oT, Fr.keep F2 _ _ hoT, hcT⟩ rfl (by rfl) (by rfl) fun h6 F6 N6 => ?_
        clear F2 N2 F N M
        walk_at "mwalkC"
        all_goals
          (rename (Fr h C2 _ _) => F7)
          (rename (News h C2 _ _) => N7)
          (rename ((_ == Str.ofString ".") = _) => hdot)
          refine wpAny_call (law_row_spec (by show 1 + claimMargin + 1 < 430; decide) rfl (X5.keeps (Fr.keep F7)) (Top.keeps T5 (Fr.keep F7)) (Nat.le_trans hr1 (by decide)) hr2 ?_)
          intro h8 tk8 t8 K8
          have F8 := frExt F7 K8
          have N8 := newsExt N7 K8
          clear F7 N7 K8
          have hrow : (⟨(rowT r.cps.toList (KBw.bInts b)).toArray⟩ : Str).length ≤ 1000 := by
            rw [← hr, ← hb, KBa.ints_make hx.2.1, Tx.mkS_len]
            have := rowT_len x.1 x.2
            have := hx.1.2
            have := hx.2.2
            simp only
            omega
          have hrr : (⟨(rowT r.cps.toList (KBw.bInts b)).toArray⟩ : Str) = Tx.mkS (rowT x.1 x.2) := by
            rw [← hr, ← hb, KBa.ints_make hx.2.1]
          generalize (⟨(rowT r.cps.toList (KBw.bInts b)).toArray⟩ : Str) = rr at hrow hrr
          walk_at "mwalkC"
          show EndC _ C2 own2 _ _ _ _
          refine EndC.mk' F8 N8 off2 ⟨hJ2.1, ?_⟩
          rw [htk, List.map_append]
          refine cast (congrArg (fun z => StrsAre (ys2 ++ [Value.str z _]) _) ?_) (strsSnoc hJ2.2 (sentOf x) _)
          rw [hrr]
          first
            | exact (row_dot (o := x.2) (hr ▸ hdot)).symm
            | exact (row_plain (o := x.2) (hr ▸ hdot)).symm
      · intro D2 ys2 nw2 h2 tk2 hJ2 hyl2 k2 hD02 hD2 hnw2
        dsimp only at k2 hD02 hnw2
        refine EndC.mk' (frExt F k2) (newsAdd F N k2 hD02 hD2) (fun p hp => ?_) (hJ.step (fun j v hx => hx.mono fun p hp => .tail _ hp) ⟨D2, _, _, _, rfl, .head _, rfl, rfl, ?_⟩)
        · rcases List.mem_cons.mp hp with e | e
          · rw [e]; exact newOff N hD02
          · exact off p e
        · have := hJ2.2
          rw [M2.2.1, List.take_length] at this
          exact this
    · intro D ds nD h tk hJ hyl k hD₀ hD hnw
      dsimp only
      have hJd := hJ
      have N6 := newsMany F4 N5 k (U := (D, lst ds) :: nD) (fun p hp => by
        rcases List.mem_cons.mp hp with rfl | hp
        · exact ⟨hD, hD₀⟩
        · exact ⟨(hnw p hp).1, (hnw p hp).2.1⟩)
      refine storeCell (own := [(_, oW')]) (frExt F4 k) N6 (by rfl) (by rfl) (by rfl) dD (fun p hp => ?_) (fun p hp => ?_) (fun h7 oD' dD' F7 N7 => ?_)
      · rw [List.mem_singleton.mp hp]; exact Nat.ne_of_lt (Nat.lt_succ_self _)
      · rcases List.mem_append.mp hp with hp | hp
        · exact hne p hp
        · rcases List.mem_cons.mp hp with rfl | hp
          · exact newNe N5 (.tail _ (.head _)) hD₀
          · exact newNe N5 (.tail _ (.head _)) (hnw p hp).2.1
      clear F4 N5 N6 X4 T4 hD hD₀ hnw k hyl hne hJ dD
      have N8 := newsNorm N7
      have hSv : ∀ (j : Nat) (v : Value), ss[j]? = some v → SN (nS ++ (nD ++ U)) v ((two a0 a1 j).map sentOf ++ [Tx.mkS []]) := fun j v e => (hS j v e).mono fun p hp => List.mem_append_left _ hp
      have hDv : ∀ (j : Nat) (v : Value), ds[j]? = some v → SN (nS ++ (nD ++ U)) v ((two a0 a1 j).map sentOf) := fun j v e => (hJd.2 j v e).mono fun p hp => List.mem_append_right _ (List.mem_append_left _ hp)
      have hMv : ∀ (i : Nat) (v : Value), #[Value.ref m0, Value.ref m1][i]? = some v → MN (nS ++ (nD ++ U)) v (two a0 a1 i) ∧ MailOk (two a0 a1 i) ∧ (two a0 a1 i).length ≤ 14 := fun i v e => ⟨(hMa i v e).1.mono fun p hp => List.mem_append_right _ (List.mem_append_right _ hp), (hMa i v e).2⟩
      have hUv : (lm, W.listOf #[.ref m0, .ref m1] 0) ∈ nS ++ (nD ++ U) := List.mem_append_right _ (List.mem_append_right _ hUl)
      have hdl : ds.length = 2 := hJd.1
      have hsl : ss.length = 2 := hyl2
      clear N7 hS hJd hMa hUl hyl2 hM0 hM1 ok0 ok1 n0 n1
      generalize nS ++ (nD ++ U) = V at N8 hSv hDv hMv hUv
      walk_at "mwalkC"
      have X8 := KX.keeps (Fr.keep F7)
      have T8 := Top.keeps TT (Fr.keep F7)
      refine compG (by rfl) (by decide) (by rfl) (by decide) ?_
      walk_at "mwalkC"
      refine srcList (l := D) (items := ds.toArray) rfl (News.isList N8 (.tail _ (.tail _ (.tail _ (.head _))))) (by rw [sizeLine_eq, List.size_toArray, hdl]; decide) (JL fun j v nw => SN nw v ((two a0 a1 j).map sentOf ++ [Tx.mkS []])) JL.start (turnName (by rfl) (by rfl) ?_) ?_
      · intro i v ys nw own C h tk m E' hi hP hJ off F N
        dsimp only at F N
        obtain ⟨a, vs, rfl, hl, hs⟩ := (hDv i v (by simpa using hP)).at (fun p hp => (N8 p (.tail _ (.tail _ (.tail _ (.tail _ hp))))).1)
        have hsz : vs.length ≤ 20 := by
          rw [hs.length, List.length_map]
          have : (two a0 a1 i).length ≤ 14 := (hMv i (two (.ref m0) (.ref m1) i) (by
            have : i < 2 := by rw [List.size_toArray, hdl] at hi; exact hi
            rcases i with _ | _ | i
            · rfl
            · rfl
            · omega)).2.2
          omega
        walk_at "mwalkC"
        rename (Fr h7 C _ _) => F9
        rename (News h7 C _ _) => N9
        refine add_lists F9 N9 (Heap.IsList.keeps' hl (Fr.keep F9)) (News.isList N9 (.head _)) (fun h' F' N' => ?_) (by rw [sizeLine_eq]; simp only [List.length_singleton]; omega)
        refine EndC.mk' (nw := _ :: nw) F' (newsDrop2 N') (fun p hp q hq => ?_) (hJ.step (fun j v hx => hx.mono fun p hp => .tail _ hp) ⟨_, _, _, _, rfl, .head _, rfl, rfl, addedRow hs⟩)
        · rcases List.mem_cons.mp hp with e | e
          · rw [e]
            exact Nat.ne_of_gt (Heap.lt_size (N9 q (.tail _ (List.mem_append_right _ hq))).1)
          · exact off p e q hq
      · intro G gs nG h tk hJ hyl k hD₀ hD hnw
        dsimp only at k hD₀ hnw
        have F9 := frExt F7 k
        have N9 := newsExt N8 k
        walk_at "mwalkC"
        refine neTwo (fun j => (two a0 a1 j).map sentOf ++ [Tx.mkS []]) (News.isList N9 (.tail _ (.tail _ (.head _)))) ⟨_, hD, rfl, _, rfl⟩ (by rw [hsl, hJ.1, List.size_toArray, hdl]) (fun j v e => (hSv j v e).at fun p hp => (N9 p (.tail _ (.tail _ (.tail _ (.tail _ hp))))).1) (fun j v e => (hJ.2 j v e).at fun p hp => (hnw p hp).1) (by show 4 + 3 < cLine; decide) (by show 4 + 3 + 1 < cLine; decide) _ _ _ _ ?_
        clear hJ hyl k hD₀ hD hnw F7 N8 X8 T8
        dsimp only
        walk_at "mwalkC"
        have X9 := KX.keeps (Fr.keep F9)
        have T9 := Top.keeps TT (Fr.keep F9)
        refine compG (by rfl) (by decide) (by rfl) (by decide) ?_
        walk_at "mwalkC"
        refine srcList (l := S) (items := ss.toArray) rfl (News.isList N9 (.tail _ (.tail _ (.head _)))) (by rw [sizeLine_eq, List.size_toArray, hsl]; decide) (JL fun j v nw => MN nw v (two a0 a1 j)) JL.start (turnName (by rfl) (by rfl) ?_) ?_
        · intro i v ys nw own C h tk m E' hi hP hJ off F N
          dsimp only at F N
          obtain ⟨a, vs, rfl, hl, hs⟩ := (hSv i v (by simpa using hP)).at (fun p hp => (N9 p (.tail _ (.tail _ (.tail _ (.tail _ hp))))).1)
          have hl2 := Heap.IsList.keeps' hl (Fr.keep F)
          walk_at "mwalkC"
          refine compG (by rfl) (by decide) (by rfl) (by decide) ?_
          walk_at "mwalkC"
          have hok := (hOk i).1.2
          have hlen := (hOk i).2
          have hws := rowsTake hs
          have hsz : vs.length ≤ 30 := by
            rw [hs.length, List.length_append, List.length_map, List.length_singleton]
            omega
          refine sliceLast F N hl2 hsz (fun D2 h2 F4 N4 => ?_) (by with_unfolding_all rfl) (by intro _; with_unfolding_all rfl)
          generalize vs.take (vs.length - 1) = ws at hws N4
          have hwl : ws.length = (two a0 a1 i).length := by rw [hws.length, List.length_map]
          clear hl2 hl hs
          have X10 := X9.keeps (Fr.keep F)
          have T10 := Top.keeps T9 (Fr.keep F)
          have X11 := X9.keeps (Fr.keep F4)
          have T11 := Top.keeps T9 (Fr.keep F4)
          dsimp only
          refine srcList (l := D2) (items := ws.toArray) rfl (News.isList N4 (.head _)) (by rw [sizeLine_eq, List.size_toArray, hwl]; exact Nat.le_trans hlen (by decide)) (JL fun j v nw => ∀ y, (two a0 a1 i)[j]? = some y → AN nw v y) JL.start (turnName (by rfl) (by rfl) ?_) ?_
          · intro i2 v2 ys2 nw2 own2 C2 h3 tk3 m3 E3 hi2 hP2 hJ2 off2 F5 N5
            dsimp only at F5 N5
            obtain ⟨z, t, hz, rfl⟩ := strAt hws (by simpa using hP2)
            rw [List.getElem?_map, Option.map_eq_some_iff] at hz
            obtain ⟨x, hx, rfl⟩ := hz
            have hxo := hok x (List.mem_of_getElem? hx)
            clear F4 N4 F N F9 N9
            walk_at "mwalkC"
            refine wpAny_call (law_read_spec (x := x.1) (o := x.2) (by show 1 + claimMargin + 1 < 430; decide) rfl (X11.keeps (Fr.keep F5)) (Top.keeps T11 (Fr.keep F5)) (fun h => (hxo.1.1 58 h).2.2 rfl) hxo.2.1 hxo.1.2 hxo.2.2 ?_)
            intro h6 tk6 a6 ta tb K6 ha6 ho6
            show EndC _ C2 own2 _ _ _ _
            refine EndC.mk' (frExt F5 K6) (newsAdd F5 N5 K6 ha6 ho6) (fun p hp => ?_) (hJ2.step (fun j v hx y hy => (hx y hy).mono fun p hp => .tail _ hp) fun y hy => ?_)
            · rcases List.mem_cons.mp hp with e | e
              · rw [e]; exact newOff N5 ha6
              · exact off2 p e
            · cases hx.symm.trans hy
              exact ⟨a6, ta, tb, rfl, .head _⟩
          · intro D3 ys3 nw3 h3 tk3 hJ3 hyl3 k3 hD03 hD3 hnw3
            dsimp only at k3 hD03 hnw3
            have N5 := newsInner (newsMany F4 N4 k3 (U := (D3, lst ys3) :: nw3) (fun p hp => by
              rcases List.mem_cons.mp hp with rfl | hp
              · exact ⟨hD3, hD03⟩
              · exact ⟨(hnw3 p hp).1, (hnw3 p hp).2.1⟩))
            refine EndC.mk' (nw := (D3, lst ys3) :: (nw3 ++ nw)) (frExt F4 k3) N5 (fun p hp q hq => ?_) (hJ.step (fun j v hx => hx.mono fun p hp => .tail _ (List.mem_append_right _ hp)) ⟨D3, _, _, _, rfl, .head _, rfl, rfl, ?_, fun j x y hx hy => (hJ3.2 j x hx y hy).mono fun p hp => .tail _ (List.mem_append_left _ hp)⟩)
            · have hq' : q ∈ (D2, W.listOf ws.toArray 0) :: (nw ++ own) := .tail _ (List.mem_append_right _ hq)
              rcases List.mem_cons.mp hp with e | e
              · rw [e]; exact newNe (o := q.2) N4 hq' hD03
              · rcases List.mem_append.mp e with e | e
                · exact newNe (o := q.2) N4 hq' (hnw3 p e).2.1
                · exact off p e q hq
            · rw [hJ3.1, List.size_toArray, hwl]
        · intro G gs nG h tk hJ hyl k hD₀ hD hnw
          dsimp only at k hD₀ hnw
          have F10 := frExt F9 k
          have N10 := newsExt N9 k
          walk_at "mwalkC"
          refine neMails (gs := [.ref m0, .ref m1]) (two a0 a1) ⟨_, hD, rfl, _, rfl⟩ (News.isList N10 (.tail _ (.tail _ (.tail _ (.tail _ hUv))))) (by rw [hJ.1, List.size_toArray, hsl]; rfl) (fun j v e => (hJ.2 j v e).at fun p hp => (hnw p hp).1) (fun j v e => (hMv j v (by simpa using e)).1.at fun p hp => (N10 p (.tail _ (.tail _ (.tail _ (.tail _ hp))))).1) (fun j x hx => ((hOk j).1.2 x hx).2.1) (by show 4 + 3 < cLine; decide) (by show 4 + 3 + 1 < cLine; decide) (by show 4 + 3 + 2 < cLine; decide) _ _ _ _ ?_
          clear hJ hyl k hD₀ hD hnw F9 N9 X9 T9
          dsimp only
          walk_at "mwalkC"
          obtain ⟨d0, d1, rfl⟩ := two_of hdl
          obtain ⟨s0, s1, rfl⟩ := two_of hsl
          have hd0 := hDv 0 d0 rfl
          have hd1 := hDv 1 d1 rfl
          have hs0 := hSv 0 s0 rfl
          have hs1 := hSv 1 s1 rfl
          have hm0 := (hMv 0 (.ref m0) rfl).1
          have hm1 := (hMv 1 (.ref m1) rfl).1
          have ok0 := (hOk 0).1
          have ok1 := (hOk 1).1
          have n0 := (hOk 0).2
          have n1 := (hOk 1).2
          change SN V d0 (a0.map sentOf) at hd0
          change SN V d1 (a1.map sentOf) at hd1
          change SN V s0 (a0.map sentOf ++ [Tx.mkS []]) at hs0
          change SN V s1 (a1.map sentOf ++ [Tx.mkS []]) at hs1
          change MN V (.ref m0) a0 at hm0
          change MN V (.ref m1) a1 at hm1
          change MailOk a0 at ok0
          change MailOk a1 at ok1
          change a0.length ≤ 14 at n0
          change a1.length ≤ 14 at n1
          clear hDv hSv hMv hOk hdl hsl
          refine compG (by rfl) (by decide) (by rfl) (by decide) ?_
          walk_at "mwalkD"
          refine itemA (News.isList N10 (.tail _ (.tail _ (.tail _ (.head _))))) ?_
          obtain ⟨d0a, d0s, rfl, hd0L, hd0S⟩ := hd0.at (fun p hp => (N10 p (.tail _ (.tail _ (.tail _ (.tail _ hp))))).1)
          walk_at "mwalkD"
          refine len_list hd0L (by rw [List.size_toArray, hd0S.length, List.length_map]; exact Int.ofNat_lt.mpr (Nat.lt_of_le_of_lt n0 (by decide))) ?_
          have hna : d0s.toArray.size = a0.length := by rw [List.size_toArray, hd0S.length, List.length_map]
          rw [hna]
          walk_at "mwalkD"
          rename_i hRa RFa RNa RKa
          have BDa := News.isList RNa (.tail _ (.tail _ (.tail _ (.head _))))
          have BLa := News.isList RNa (.tail _ (.tail _ (.tail _ (.tail _ hUv))))
          have Bda := Heap.IsList.keeps' hd0L RKa
          have bVa : ∀ p ∈ V, _ := fun p hp => (RNa p (.tail _ (.tail _ (.tail _ (.tail _ hp))))).1
          obtain ⟨_, iXa, eXa, MXa⟩ := hm0.at bVa
          cases eXa
          obtain ⟨_, iYa, eYa, MYa⟩ := hm1.at bVa
          cases eYa
          have BWa := News.cellAt RNa (.head _) dW' (fun e => e)
          have BCa := News.cellAt RNa (.tail _ (.head _)) dD' (fun e => e)
          dsimp only
          refine srcRange rfl hRa (by omega) (fun i ys nw => nw = [] ∧ StrsAre ys (((a0.take i).filter (fun x => decide (x ∉ a1))).map sentOf)) ⟨rfl, .nil⟩ (turnTest (by rfl) (by rfl) ?_) ?_
          · rintro i v ys nw own C h2 tk2 m2 E2 hi ⟨t, rfl⟩ hJ2 off F N
            dsimp only at F N
            have CW := Heap.IsCell.keeps BWa (Fr.keep F)
            have CC := Heap.IsCell.keeps BCa (Fr.keep F)
            obtain ⟨q, hq, hA⟩ := MXa.2.2 i hi
            have hxm := List.getElem_mem hi
            have htk : a0.take (i + 1) = a0.take i ++ [a0[i]] := (List.take_append_getElem hi).symm
            obtain ⟨tz, hz⟩ := hd0S.get i (sentOf a0[i]) (by rw [List.getElem?_map, List.getElem?_eq_getElem hi]; rfl)
            generalize a0[i] = x at hA hxm htk hz
            have hA2 : AttAt h2 q x := by
              obtain ⟨t, ta, tb, e2, o, ho, z⟩ := hA
              exact ⟨t, ta, tb, e2, o, Fr.keep F _ _ ho, z⟩
            have M12 := MYa.keeps (Fr.keep F)
            walk1
            walk1
            walk1
            refine cCell CW ?_
            walk_at "mwalkE"
            refine itemA (Heap.IsList.keeps' BLa (Fr.keep F)) ?_
            walk_at "mwalkE"
            refine cLoc F (by walk_at "mlook") ?_
            walk_at "mwalkE"
            refine itemAny (items := iXa) (Heap.IsList.keeps' MXa.1 (Fr.keep F)) (Int.natCast_nonneg _) (by omega) (by simpa using hq) ?_
            walk_at "mwalkE"
            refine cCell CW ?_
            walk_at "mwalkE"
            refine itemB (Heap.IsList.keeps' BLa (Fr.keep F)) ?_
            walk_at "mwalkF"
            refine notInMail M12.1 hA2 M12.2.1 M12.2.2 (fun y hy => (ok1.2 y hy).2.1) (ok0.2 x hxm).2.1 (by show 4 + 3 + 1 < cLine; decide) ?_
            by_cases hx : x ∈ a1
            · rw [show decide (x ∉ a1) = false by simp [hx]]
              walk_at "mwalkE"
              refine EndC.mk' F N off ⟨hJ2.1, ?_⟩
              rw [htk, List.filter_append, show List.filter (fun x => decide (x ∉ a1)) [x] = [] by simp [hx], List.append_nil]
              exact hJ2.2
            · rw [show decide (x ∉ a1) = true by simp [hx]]
              walk_at "mwalkE"
              refine cCell CC ?_
              walk_at "mwalkE"
              refine itemA (Heap.IsList.keeps' BDa (Fr.keep F)) ?_
              walk_at "mwalkE"
              refine cLoc F (by walk_at "mlook") ?_
              walk_at "mwalkE"
              refine itemAny (items := d0s.toArray) (Heap.IsList.keeps' Bda (Fr.keep F)) (Int.natCast_nonneg _) (by omega) (by simpa using hz) ?_
              refine EndC.mk' F N off ⟨hJ2.1, ?_⟩
              rw [htk, List.filter_append, show List.filter (fun x => decide (x ∉ a1)) [x] = [x] by simp [hx], List.map_append]
              exact strsSnoc hJ2.2 _ _
          intro Ga gsa nGa h3a tk3a hJ3a hyl3a k3a hD03a hD3a hnw3a
          dsimp only at k3a hD03a hnw3a
          have F11a := frExt RFa k3a
          have N11a := newsExt RNa k3a
          walk1
          refine sorted_N_str F11a N11a ⟨_, hD3a, rfl, _, rfl⟩ hJ3a.2 (Nat.lt_of_le_of_lt hyl3a (Nat.lt_of_le_of_lt n0 (by decide))) (fun h13a gva gSa e13a F13a N13a hgSa hgpa hgsa => ?_)
          rw [List.take_length] at hgpa
          clear hRa RFa RNa RKa BDa BLa Bda bVa MXa MYa BWa BCa F11a N11a hJ3a hyl3a k3a hD03a hD3a hnw3a hd0L hd0S hna
          generalize h3a.objs.size + 1 = ga at N13a ⊢
          have N14a := newsFifth N13a
          have hGa : SN ((ga, seqObj "list" gva.toArray e13a) :: V) (.ref ga) gSa := ⟨ga, _, gva, _, rfl, .head _, rfl, rfl, hgSa⟩
          have mUa : ∀ p ∈ V, p ∈ (ga, seqObj "list" gva.toArray e13a) :: V := fun p hp => .tail _ hp
          replace hd0 := hd0.mono mUa
          replace hd1 := hd1.mono mUa
          replace hs0 := hs0.mono mUa
          replace hs1 := hs1.mono mUa
          replace hm0 := hm0.mono mUa
          replace hm1 := hm1.mono mUa
          replace hUv := mUa _ hUv
          clear N13a mUa hgSa
          generalize (ga, seqObj "list" gva.toArray e13a) :: V = Va at N14a hGa hd0 hd1 hs0 hs1 hm0 hm1 hUv
          walk_at "mwalkD"
          rename News _ _ _ _ => N15
          refine compG (by rfl) (by decide) (by rfl) (by decide) ?_
          walk_at "mwalkD"
          refine itemB (News.isList N15 (.tail _ (.tail _ (.tail _ (.head _))))) ?_
          obtain ⟨d1a, d1s, rfl, hd1L, hd1S⟩ := hd1.at (fun p hp => (N15 p (.tail _ (.tail _ (.tail _ (.tail _ hp))))).1)
          walk_at "mwalkD"
          refine len_list hd1L (by rw [List.size_toArray, hd1S.length, List.length_map]; exact Int.ofNat_lt.mpr (Nat.lt_of_le_of_lt n1 (by decide))) ?_
          have hnb : d1s.toArray.size = a1.length := by rw [List.size_toArray, hd1S.length, List.length_map]
          rw [hnb]
          walk_at "mwalkD"
          rename_i hRb RFb RNb RKb
          have BDb := News.isList RNb (.tail _ (.tail _ (.tail _ (.head _))))
          have BLb := News.isList RNb (.tail _ (.tail _ (.tail _ (.tail _ hUv))))
          have Bdb := Heap.IsList.keeps' hd1L RKb
          have bVb : ∀ p ∈ Va, _ := fun p hp => (RNb p (.tail _ (.tail _ (.tail _ (.tail _ hp))))).1
          obtain ⟨_, iXb, eXb, MXb⟩ := hm1.at bVb
          cases eXb
          obtain ⟨_, iYb, eYb, MYb⟩ := hm0.at bVb
          cases eYb
          have BWb := News.cellAt RNb (.head _) dW' (fun e => e)
          have BCb := News.cellAt RNb (.tail _ (.head _)) dD' (fun e => e)
          dsimp only
          refine srcRange rfl hRb (by omega) (fun i ys nw => nw = [] ∧ StrsAre ys (((a1.take i).filter (fun x => decide (x ∉ a0))).map sentOf)) ⟨rfl, .nil⟩ (turnTest (by rfl) (by rfl) ?_) ?_
          · rintro i v ys nw own C h2 tk2 m2 E2 hi ⟨t, rfl⟩ hJ2 off F N
            dsimp only at F N
            have CW := Heap.IsCell.keeps BWb (Fr.keep F)
            have CC := Heap.IsCell.keeps BCb (Fr.keep F)
            obtain ⟨q, hq, hA⟩ := MXb.2.2 i hi
            have hxm := List.getElem_mem hi
            have htk : a1.take (i + 1) = a1.take i ++ [a1[i]] := (List.take_append_getElem hi).symm
            obtain ⟨tz, hz⟩ := hd1S.get i (sentOf a1[i]) (by rw [List.getElem?_map, List.getElem?_eq_getElem hi]; rfl)
            generalize a1[i] = x at hA hxm htk hz
            have hA2 : AttAt h2 q x := by
              obtain ⟨t, ta, tb, e2, o, ho, z⟩ := hA
              exact ⟨t, ta, tb, e2, o, Fr.keep F _ _ ho, z⟩
            have M12 := MYb.keeps (Fr.keep F)
            walk1
            walk1
            walk1
            refine cCell CW ?_
            walk_at "mwalkE"
            refine itemB (Heap.IsList.keeps' BLb (Fr.keep F)) ?_
            walk_at "mwalkE"
            refine cLoc F (by walk_at "mlook") ?_
            walk_at "mwalkE"
            refine itemAny (items := iXb) (Heap.IsList.keeps' MXb.1 (Fr.keep F)) (Int.natCast_nonneg _) (by omega) (by simpa using hq) ?_
            walk_at "mwalkE"
            refine cCell CW ?_
            walk_at "mwalkE"
            refine itemA (Heap.IsList.keeps' BLb (Fr.keep F)) ?_
            walk_at "mwalkF"
            refine notInMail M12.1 hA2 M12.2.1 M12.2.2 (fun y hy => (ok0.2 y hy).2.1) (ok1.2 x hxm).2.1 (by show 4 + 3 + 1 < cLine; decide) ?_
            by_cases hx : x ∈ a0
            · rw [show decide (x ∉ a0) = false by simp [hx]]
              walk_at "mwalkE"
              refine EndC.mk' F N off ⟨hJ2.1, ?_⟩
              rw [htk, List.filter_append, show List.filter (fun x => decide (x ∉ a0)) [x] = [] by simp [hx], List.append_nil]
              exact hJ2.2
            · rw [show decide (x ∉ a0) = true by simp [hx]]
              walk_at "mwalkE"
              refine cCell CC ?_
              walk_at "mwalkE"
              refine itemB (Heap.IsList.keeps' BDb (Fr.keep F)) ?_
              walk_at "mwalkE"
              refine cLoc F (by walk_at "mlook") ?_
              walk_at "mwalkE"
              refine itemAny (items := d1s.toArray) (Heap.IsList.keeps' Bdb (Fr.keep F)) (Int.natCast_nonneg _) (by omega) (by simpa using hz) ?_
              refine EndC.mk' F N off ⟨hJ2.1, ?_⟩
              rw [htk, List.filter_append, show List.filter (fun x => decide (x ∉ a0)) [x] = [x] by simp [hx], List.map_append]
              exact strsSnoc hJ2.2 _ _
          intro Gb gsb nGb h3b tk3b hJ3b hyl3b k3b hD03b hD3b hnw3b
          dsimp only at k3b hD03b hnw3b
          have F11b := frExt RFb k3b
          have N11b := newsExt RNb k3b
          walk1
          refine sorted_N_str F11b N11b ⟨_, hD3b, rfl, _, rfl⟩ hJ3b.2 (Nat.lt_of_le_of_lt hyl3b (Nat.lt_of_le_of_lt n1 (by decide))) (fun h13b gvb gSb e13b F13b N13b hgSb hgpb hgsb => ?_)
          rw [List.take_length] at hgpb
          clear hRb RFb RNb RKb BDb BLb Bdb bVb MXb MYb BWb BCb F11b N11b hJ3b hyl3b k3b hD03b hD3b hnw3b hd1L hd1S hnb
          generalize h3b.objs.size + 1 = gb at N13b ⊢
          have N14b := newsFifth N13b
          have hGb : SN ((gb, seqObj "list" gvb.toArray e13b) :: Va) (.ref gb) gSb := ⟨gb, _, gvb, _, rfl, .head _, rfl, rfl, hgSb⟩
          have mUb : ∀ p ∈ Va, p ∈ (gb, seqObj "list" gvb.toArray e13b) :: Va := fun p hp => .tail _ hp
          replace hd0 := hd0.mono mUb
          replace hd1 := hd1.mono mUb
          replace hs0 := hs0.mono mUb
          replace hs1 := hs1.mono mUb
          replace hm0 := hm0.mono mUb
          replace hm1 := hm1.mono mUb
          replace hUv := mUb _ hUv
          replace hGa := hGa.mono mUb
          clear N13b mUb hgSb
          generalize (gb, seqObj "list" gvb.toArray e13b) :: Va = Vb at N14b hGb hGa hd0 hd1 hs0 hs1 hm0 hm1 hUv
          walk_at "mwalkD"
          rename News _ _ _ _ => N16
          rename Fr _ _ _ _ => F16
          refine itemA (News.isList N16 (.tail _ (.tail _ (.head _)))) ?_
          obtain ⟨s0a, s0s, rfl, hs0L, hs0S⟩ := hs0.at (fun p hp => (N16 p (.tail _ (.tail _ (.tail _ (.tail _ hp))))).1)
          have hz0 : s0s.length ≤ 30 := by
            rw [hs0S.length, List.length_append, List.length_map, List.length_singleton]; omega
          walk_at "mwalkD"
          refine sliceLastAny F16 N16 hs0L hz0 (fun D2 h2 F17 N17 => ?_) (by with_unfolding_all rfl)
          have hr0 := rowsTake hs0S
          clear F16 N16 hs0L
          dsimp only
          walk_at "mwalkD"
          refine sorted_N_str F17 N17 (News.isList N17 (.head _)) hr0 (by rw [hr0.length, List.length_map]; exact Nat.lt_of_le_of_lt n0 (by decide)) (fun h18 v18 S0 e18 F18 N18 hx18 hp18 hs18 => ?_)
          generalize h2.objs.size + 1 = x0 at N18 ⊢
          walk_at "mwalkD"
          refine itemB (News.isList N18 (.tail _ (.tail _ (.tail _ (.tail _ (.head _)))))) ?_
          obtain ⟨s1a, s1s, rfl, hs1L, hs1S⟩ := hs1.at (fun p hp => (N18 p (.tail _ (.tail _ (.tail _ (.tail _ (.tail _ (.tail _ hp))))))).1)
          have hz1 : s1s.length ≤ 30 := by
            rw [hs1S.length, List.length_append, List.length_map, List.length_singleton]; omega
          walk_at "mwalkD"
          refine sliceLastAny F18 N18 hs1L hz1 (fun D3 h3 F19 N19 => ?_) (by with_unfolding_all rfl)
          have hr1 := rowsTake hs1S
          clear F18 N18 hs1L F17 N17
          dsimp only
          walk_at "mwalkD"
          refine sorted_N_str F19 N19 (News.isList N19 (.head _)) hr1 (by rw [hr1.length, List.length_map]; exact Nat.lt_of_le_of_lt n1 (by decide)) (fun h20 v20 S1 e20 F20 N20 hx20 hp20 hs20 => ?_)
          generalize h3.objs.size + 1 = x1 at N20 ⊢
          clear F19 N19
          walk_at "mwalkD"
          refine callDiff (by show 1 + claimMargin + 1 < 430; decide) rfl rfl (fun e => nomatch (show ScopeKind.function = ScopeKind.module from e)) rfl F20 N20 KX TT (.tail _ (.tail _ (.head _))) (.head _) hx18 hx20 (by rw [hp18.length_eq, List.length_map]; exact Nat.le_trans n0 (by decide)) (by rw [hp20.length_eq, List.length_map]; exact Nat.le_trans n1 (by decide)) (near_ne (hp18.nodup_iff.mpr (nodup_map ok0))) (near_ne (hp20.nodup_iff.mpr (nodup_map ok1))) ?_
          intro h21 tk21 DD oDD lM lU U2 F21 N21 hDm hDc hDd hM hU
          rw [dif_law ok0 ok1 hp18 hs18 hp20 hs20 hgpa hgsa] at hM
          rw [dif_law ok1 ok0 hp20 hs20 hp18 hs18 hgpb hgsb] at hU
          clear F20 N20
          dsimp only
          walk_at "mwalkD"
          rename News _ _ _ _ => N22
          rename Fr _ _ _ _ => F22
          have hU2 : ∀ p ∈ U2, _ := fun p hp => (N22 p (.tail _ (List.mem_append_left _ hp))).1
          have hVb : ∀ p ∈ Vb, _ := fun p hp => (N22 p (.tail _ (List.mem_append_right _ (.tail _ (.tail _ (.tail _ (.tail _ (.tail _ (.tail _ (.tail _ (.tail _ hp)))))))))) ).1
          refine eqPair ⟨oDD, hU2 _ hDm, hDc, hDd⟩ (News.isTup N22 (.head _)) (hM.at hU2) (hGa.at hVb) (hU.at hU2) (hGb.at hVb) (by show 4 + 3 < cLine; decide) (by show 4 + 3 + 1 < cLine; decide) _ _ _ _ ?_
          dsimp only
          first
            | (k_end; kc_close)
            | kc_close)
end Mine
end
end

theorem PySem.Challenge.cw_kq0049_01_holds : PySem.Challenge.rw_kq0049_01.Holds :=
  Mine.law_holds
