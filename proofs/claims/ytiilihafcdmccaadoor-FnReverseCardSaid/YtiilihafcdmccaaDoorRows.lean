/-
  NARROWER THAN 'FOR EVERY INPUT', by the rows' own cells (each row's printed sentence says how): FnUnpackName: laid · FnFqdn: laid · FnIsName: laid · FnLabels: laid · FnCanonical: laid · FnNoRoom: laid · FnPackName: laid · FnTypes: laid · FnNameComesBack: laid · FnHash: laid · FnReverse: laid.
  DERIVED. THE GIVEN ROWS OF THIS SEAT. 11 by the template 'for every input the law returns true; each argument reads behind the call as it read before'; 0 by the template 'total and deterministic' (their statements: YtiilihafcdmccaaDoorTotals.lean).
  GIVEN WITH THE SEED: the statements are not yours to turn. If you find one false, say at which input.
  Laid BY PROGRAM, IN A SANDBOX (cutbox-rows.mjs): the forced cells as the released guide's own fill.sh prints them over the translation 8142274e7b192ada… (all of the seat's roots in one cut). By AI agents, Wed Nov 11 2026. No macro, syntax, notation, axiom, sorry.
-/
import Derived.Test.YtiilihafcdmccaaDoorChecked
import GoSem.PinnedTables
import GoSem.Claim
import GoSem.ClaimJoined
import GoSem.ClaimMapViews
import Derived.JoinedTies
import Derived.KernelRfl
namespace Go.Proofs.YtiilihafcdmccaaDoor
/- THE CELL 'sum', in the pinned program and in every row, IS THE sha256 OF THE DUMP (.gsa) THAT YtiilihafcdmccaaDoorProg.lean LOADS. Nothing in Lean hashes anything: it is a label: what it is worth is what the hold of that sum in a sandbox is worth. -/
noncomputable def Tryd.pinned : Pinned := { name := "ytiilihafcdmccaadoor", sum := "8142274e7b192ada439b7bb2270ca00dd7be8353d3d1286dcc2ddb0e755efb4a", checked := Tryd.checked }
namespace Rows
def none {H : Type} : Left H := { results := [], args := [] }

/- WHAT THE LISTED PACKAGE-LEVEL VARIABLES READ AS WHEN THE CALL BEGINS. Each datum BY PROGRAM (the guide's laid-datum.mjs) off the statement by which the dump's own 'gosem.cut.vars' lays the variable. In a bare row this is a premise. The card (YtiilihafcdmccaaDoorCards.lean) ties it to the program's text. -/
def laid_domainrecords_pub_dns_ErrBuf {H : Type} : DataW H := .iface "*errors.errorString" (.ptr (.agg [.lit (.string [100, 110, 115, 58, 32, 98, 117, 102, 102, 101, 114, 32, 115, 105, 122, 101, 32, 116, 111, 111, 32, 115, 109, 97, 108, 108])]))
def laid_domainrecords_pub_dns_ErrLongDomain {H : Type} : DataW H := .iface "*errors.errorString" (.ptr (.agg [.lit (.string [100, 110, 115, 58, 32, 100, 111, 109, 97, 105, 110, 32, 110, 97, 109, 101, 32, 101, 120, 99, 101, 101, 100, 101, 100, 32, 50, 53, 53, 32, 119, 105, 114, 101, 45, 102, 111, 114, 109, 97, 116, 32, 111, 99, 116, 101, 116, 115])]))
def laid_domainrecords_pub_dns_ErrRdata {H : Type} : DataW H := .iface "*errors.errorString" (.ptr (.agg [.lit (.string [100, 110, 115, 58, 32, 98, 97, 100, 32, 114, 100, 97, 116, 97])]))
def laid_unicode_utf8_acceptRanges {H : Type} : DataW H := .agg [.agg [.lit (.int .u8 128), .lit (.int .u8 191)], .agg [.lit (.int .u8 160), .lit (.int .u8 191)], .agg [.lit (.int .u8 128), .lit (.int .u8 159)], .agg [.lit (.int .u8 144), .lit (.int .u8 191)], .agg [.lit (.int .u8 128), .lit (.int .u8 143)], .agg [.lit (.int .u8 0), .lit (.int .u8 0)], .agg [.lit (.int .u8 0), .lit (.int .u8 0)], .agg [.lit (.int .u8 0), .lit (.int .u8 0)], .agg [.lit (.int .u8 0), .lit (.int .u8 0)], .agg [.lit (.int .u8 0), .lit (.int .u8 0)], .agg [.lit (.int .u8 0), .lit (.int .u8 0)], .agg [.lit (.int .u8 0), .lit (.int .u8 0)], .agg [.lit (.int .u8 0), .lit (.int .u8 0)], .agg [.lit (.int .u8 0), .lit (.int .u8 0)], .agg [.lit (.int .u8 0), .lit (.int .u8 0)], .agg [.lit (.int .u8 0), .lit (.int .u8 0)]]
/-- One of Go's own tables, pinned by name: the form's constant. -/
def laid_unicode_utf8_first : DataW Unit := Go.Pinned.utf8First
def laid_domainrecords_pub_dns_ErrFqdn {H : Type} : DataW H := .iface "*errors.errorString" (.ptr (.agg [.lit (.string [100, 110, 115, 58, 32, 100, 111, 109, 97, 105, 110, 32, 109, 117, 115, 116, 32, 98, 101, 32, 102, 117, 108, 108, 121, 32, 113, 117, 97, 108, 105, 102, 105, 101, 100])]))
def laid_math_bits_deBruijn32tab {H : Type} : DataW H := .agg [.lit (.int .u8 0), .lit (.int .u8 1), .lit (.int .u8 28), .lit (.int .u8 2), .lit (.int .u8 29), .lit (.int .u8 14), .lit (.int .u8 24), .lit (.int .u8 3), .lit (.int .u8 30), .lit (.int .u8 22), .lit (.int .u8 20), .lit (.int .u8 15), .lit (.int .u8 25), .lit (.int .u8 17), .lit (.int .u8 4), .lit (.int .u8 8), .lit (.int .u8 31), .lit (.int .u8 27), .lit (.int .u8 13), .lit (.int .u8 23), .lit (.int .u8 21), .lit (.int .u8 19), .lit (.int .u8 16), .lit (.int .u8 7), .lit (.int .u8 26), .lit (.int .u8 12), .lit (.int .u8 18), .lit (.int .u8 6), .lit (.int .u8 11), .lit (.int .u8 5), .lit (.int .u8 10), .lit (.int .u8 9)]
def laid_math_bits_deBruijn64tab {H : Type} : DataW H := .agg [.lit (.int .u8 0), .lit (.int .u8 1), .lit (.int .u8 56), .lit (.int .u8 2), .lit (.int .u8 57), .lit (.int .u8 49), .lit (.int .u8 28), .lit (.int .u8 3), .lit (.int .u8 61), .lit (.int .u8 58), .lit (.int .u8 42), .lit (.int .u8 50), .lit (.int .u8 38), .lit (.int .u8 29), .lit (.int .u8 17), .lit (.int .u8 4), .lit (.int .u8 62), .lit (.int .u8 47), .lit (.int .u8 59), .lit (.int .u8 36), .lit (.int .u8 45), .lit (.int .u8 43), .lit (.int .u8 51), .lit (.int .u8 22), .lit (.int .u8 53), .lit (.int .u8 39), .lit (.int .u8 33), .lit (.int .u8 30), .lit (.int .u8 24), .lit (.int .u8 18), .lit (.int .u8 12), .lit (.int .u8 5), .lit (.int .u8 63), .lit (.int .u8 55), .lit (.int .u8 48), .lit (.int .u8 27), .lit (.int .u8 60), .lit (.int .u8 41), .lit (.int .u8 37), .lit (.int .u8 16), .lit (.int .u8 46), .lit (.int .u8 35), .lit (.int .u8 44), .lit (.int .u8 21), .lit (.int .u8 52), .lit (.int .u8 32), .lit (.int .u8 23), .lit (.int .u8 11), .lit (.int .u8 54), .lit (.int .u8 26), .lit (.int .u8 40), .lit (.int .u8 15), .lit (.int .u8 34), .lit (.int .u8 20), .lit (.int .u8 31), .lit (.int .u8 10), .lit (.int .u8 25), .lit (.int .u8 14), .lit (.int .u8 19), .lit (.int .u8 9), .lit (.int .u8 13), .lit (.int .u8 8), .lit (.int .u8 7), .lit (.int .u8 6)]
def laid_internal_strconv_uint64pow10 {H : Type} : DataW H := .agg [.lit (.int .u64 1), .lit (.int .u64 10), .lit (.int .u64 100), .lit (.int .u64 1000), .lit (.int .u64 10000), .lit (.int .u64 100000), .lit (.int .u64 1000000), .lit (.int .u64 10000000), .lit (.int .u64 100000000), .lit (.int .u64 1000000000), .lit (.int .u64 10000000000), .lit (.int .u64 100000000000), .lit (.int .u64 1000000000000), .lit (.int .u64 10000000000000), .lit (.int .u64 100000000000000), .lit (.int .u64 1000000000000000), .lit (.int .u64 10000000000000000), .lit (.int .u64 100000000000000000), .lit (.int .u64 1000000000000000000), .lit (.int .u64 10000000000000000000)]
def laid_domainrecords_pub_dns_TypeToString {H : Type} : DataW H := .map [(.int .u16 0, .lit (.string [78, 111, 110, 101])), (.int .u16 1, .lit (.string [65])), (.int .u16 2, .lit (.string [78, 83])), (.int .u16 3, .lit (.string [77, 68])), (.int .u16 4, .lit (.string [77, 70])), (.int .u16 5, .lit (.string [67, 78, 65, 77, 69])), (.int .u16 6, .lit (.string [83, 79, 65])), (.int .u16 7, .lit (.string [77, 66])), (.int .u16 8, .lit (.string [77, 71])), (.int .u16 9, .lit (.string [77, 82])), (.int .u16 10, .lit (.string [78, 85, 76, 76])), (.int .u16 12, .lit (.string [80, 84, 82])), (.int .u16 13, .lit (.string [72, 73, 78, 70, 79])), (.int .u16 14, .lit (.string [77, 73, 78, 70, 79])), (.int .u16 15, .lit (.string [77, 88])), (.int .u16 16, .lit (.string [84, 88, 84])), (.int .u16 17, .lit (.string [82, 80])), (.int .u16 18, .lit (.string [65, 70, 83, 68, 66])), (.int .u16 19, .lit (.string [88, 50, 53])), (.int .u16 20, .lit (.string [73, 83, 68, 78])), (.int .u16 21, .lit (.string [82, 84])), (.int .u16 23, .lit (.string [78, 83, 65, 80, 45, 80, 84, 82])), (.int .u16 24, .lit (.string [83, 73, 71])), (.int .u16 25, .lit (.string [75, 69, 89])), (.int .u16 26, .lit (.string [80, 88])), (.int .u16 27, .lit (.string [71, 80, 79, 83])), (.int .u16 28, .lit (.string [65, 65, 65, 65])), (.int .u16 29, .lit (.string [76, 79, 67])), (.int .u16 30, .lit (.string [78, 88, 84])), (.int .u16 31, .lit (.string [69, 73, 68])), (.int .u16 32, .lit (.string [78, 73, 77, 76, 79, 67])), (.int .u16 33, .lit (.string [83, 82, 86])), (.int .u16 34, .lit (.string [65, 84, 77, 65])), (.int .u16 35, .lit (.string [78, 65, 80, 84, 82])), (.int .u16 36, .lit (.string [75, 88])), (.int .u16 37, .lit (.string [67, 69, 82, 84])), (.int .u16 39, .lit (.string [68, 78, 65, 77, 69])), (.int .u16 41, .lit (.string [79, 80, 84])), (.int .u16 42, .lit (.string [65, 80, 76])), (.int .u16 43, .lit (.string [68, 83])), (.int .u16 44, .lit (.string [83, 83, 72, 70, 80])), (.int .u16 45, .lit (.string [73, 80, 83, 69, 67, 75, 69, 89])), (.int .u16 46, .lit (.string [82, 82, 83, 73, 71])), (.int .u16 47, .lit (.string [78, 83, 69, 67])), (.int .u16 48, .lit (.string [68, 78, 83, 75, 69, 89])), (.int .u16 49, .lit (.string [68, 72, 67, 73, 68])), (.int .u16 50, .lit (.string [78, 83, 69, 67, 51])), (.int .u16 51, .lit (.string [78, 83, 69, 67, 51, 80, 65, 82, 65, 77])), (.int .u16 52, .lit (.string [84, 76, 83, 65])), (.int .u16 53, .lit (.string [83, 77, 73, 77, 69, 65])), (.int .u16 55, .lit (.string [72, 73, 80])), (.int .u16 56, .lit (.string [78, 73, 78, 70, 79])), (.int .u16 57, .lit (.string [82, 75, 69, 89])), (.int .u16 58, .lit (.string [84, 65, 76, 73, 78, 75])), (.int .u16 59, .lit (.string [67, 68, 83])), (.int .u16 60, .lit (.string [67, 68, 78, 83, 75, 69, 89])), (.int .u16 61, .lit (.string [79, 80, 69, 78, 80, 71, 80, 75, 69, 89])), (.int .u16 62, .lit (.string [67, 83, 89, 78, 67])), (.int .u16 63, .lit (.string [90, 79, 78, 69, 77, 68])), (.int .u16 64, .lit (.string [83, 86, 67, 66])), (.int .u16 65, .lit (.string [72, 84, 84, 80, 83])), (.int .u16 99, .lit (.string [83, 80, 70])), (.int .u16 100, .lit (.string [85, 73, 78, 70, 79])), (.int .u16 101, .lit (.string [85, 73, 68])), (.int .u16 102, .lit (.string [71, 73, 68])), (.int .u16 103, .lit (.string [85, 78, 83, 80, 69, 67])), (.int .u16 104, .lit (.string [78, 73, 68])), (.int .u16 105, .lit (.string [76, 51, 50])), (.int .u16 106, .lit (.string [76, 54, 52])), (.int .u16 107, .lit (.string [76, 80])), (.int .u16 108, .lit (.string [69, 85, 73, 52, 56])), (.int .u16 109, .lit (.string [69, 85, 73, 54, 52])), (.int .u16 128, .lit (.string [78, 88, 78, 65, 77, 69])), (.int .u16 249, .lit (.string [84, 75, 69, 89])), (.int .u16 250, .lit (.string [84, 83, 73, 71])), (.int .u16 251, .lit (.string [73, 88, 70, 82])), (.int .u16 252, .lit (.string [65, 88, 70, 82])), (.int .u16 253, .lit (.string [77, 65, 73, 76, 66])), (.int .u16 254, .lit (.string [77, 65, 73, 76, 65])), (.int .u16 255, .lit (.string [65, 78, 89])), (.int .u16 256, .lit (.string [85, 82, 73])), (.int .u16 257, .lit (.string [67, 65, 65])), (.int .u16 258, .lit (.string [65, 86, 67])), (.int .u16 260, .lit (.string [65, 77, 84, 82, 69, 76, 65, 89])), (.int .u16 261, .lit (.string [82, 69, 83, 73, 78, 70, 79])), (.int .u16 32768, .lit (.string [84, 65])), (.int .u16 32769, .lit (.string [68, 76, 86])), (.int .u16 65535, .lit (.string [82, 101, 115, 101, 114, 118, 101, 100]))]
def laid_encoding_hex_ErrLength {H : Type} : DataW H := .iface "*errors.errorString" (.ptr (.agg [.lit (.string [101, 110, 99, 111, 100, 105, 110, 103, 47, 104, 101, 120, 58, 32, 111, 100, 100, 32, 108, 101, 110, 103, 116, 104, 32, 104, 101, 120, 32, 115, 116, 114, 105, 110, 103])]))
/-- One of Go's own tables, pinned by name: the form's constant. -/
def laid_unicode_CaseRanges : DataW Unit := Go.Pinned.caseRanges
def laid_net_netip_z4 {H : Type} : DataW H := .agg [.ptr (.agg [.lit (.bool false), .lit (.string [])])]
def laid_net_netip_z6noz {H : Type} : DataW H := .agg [.ptr (.agg [.lit (.bool true), .lit (.string [])])]
def laid_net_netip_z0 {H : Type} : DataW H := .agg [.nil]

/-- 'laws.FnUnpackName': WHATEVER THE INPUT: true; the input reads as it did. -/
def fnUnpackNameSpec : ChangeSpec := { name := "fnUnpackName", fn := fun _ => fun
  | [d1, d2] => { results := [.lit (.bool true)], args := [d1, d2] }
  | _ => none }
def fnUnpackNameRow : OpenClaim := { program := "ytiilihafcdmccaadoor", sum := "8142274e7b192ada439b7bb2270ca00dd7be8353d3d1286dcc2ddb0e755efb4a", func := "domainrecords/laws.FnUnpackName", spec := "fnUnpackName", named := ["domainrecords/pub/dns.ErrBuf", "domainrecords/pub/dns.ErrLongDomain", "domainrecords/pub/dns.ErrRdata"], apart := false, laid := [("domainrecords/pub/dns.ErrBuf", laid_domainrecords_pub_dns_ErrBuf), ("domainrecords/pub/dns.ErrLongDomain", laid_domainrecords_pub_dns_ErrLongDomain), ("domainrecords/pub/dns.ErrRdata", laid_domainrecords_pub_dns_ErrRdata)] }
def FnUnpackNameSaid : Prop := fnUnpackNameRow.holds Tryd.pinned (OpenSpec.ofChange fnUnpackNameSpec)

/-- ITS FALSE NEIGHBOUR: 'it returns false'. Refute it at one input. -/
def fnUnpackNameWrong : ChangeSpec := { name := "fnUnpackName", fn := fun _ => fun
  | [d1, d2] => { results := [.lit (.bool false)], args := [d1, d2] }
  | _ => none }
def FnUnpackNameWrongFalsely : Prop := fnUnpackNameRow.holds Tryd.pinned (OpenSpec.ofChange fnUnpackNameWrong)

/-- 'laws.FnFqdn': WHATEVER THE INPUT: true; the input reads as it did. -/
def fnFqdnSpec : ChangeSpec := { name := "fnFqdn", fn := fun _ => fun
  | [d] => { results := [.lit (.bool true)], args := [d] }
  | _ => none }
def fnFqdnRow : OpenClaim := { program := "ytiilihafcdmccaadoor", sum := "8142274e7b192ada439b7bb2270ca00dd7be8353d3d1286dcc2ddb0e755efb4a", func := "domainrecords/laws.FnFqdn", spec := "fnFqdn", unfollowed := true, recurses := true, named := ["unicode/utf8.first", "unicode/utf8.acceptRanges"], apart := false, laid := [("unicode/utf8.acceptRanges", laid_unicode_utf8_acceptRanges), ("unicode/utf8.first", laid_unicode_utf8_first)] }
def FnFqdnSaid : Prop := fnFqdnRow.holds Tryd.pinned (OpenSpec.ofChange fnFqdnSpec)

/-- ITS FALSE NEIGHBOUR: 'it returns false'. Refute it at one input. -/
def fnFqdnWrong : ChangeSpec := { name := "fnFqdn", fn := fun _ => fun
  | [d] => { results := [.lit (.bool false)], args := [d] }
  | _ => none }
def FnFqdnWrongFalsely : Prop := fnFqdnRow.holds Tryd.pinned (OpenSpec.ofChange fnFqdnWrong)

/-- 'laws.FnIsName': WHATEVER THE INPUT: true; the input reads as it did. -/
def fnIsNameSpec : ChangeSpec := { name := "fnIsName", fn := fun _ => fun
  | [d] => { results := [.lit (.bool true)], args := [d] }
  | _ => none }
def fnIsNameRow : OpenClaim := { program := "ytiilihafcdmccaadoor", sum := "8142274e7b192ada439b7bb2270ca00dd7be8353d3d1286dcc2ddb0e755efb4a", func := "domainrecords/laws.FnIsName", spec := "fnIsName", unfollowed := true, recurses := true, named := ["unicode/utf8.first", "unicode/utf8.acceptRanges"], apart := false, laid := [("unicode/utf8.acceptRanges", laid_unicode_utf8_acceptRanges), ("unicode/utf8.first", laid_unicode_utf8_first)] }
def FnIsNameSaid : Prop := fnIsNameRow.holds Tryd.pinned (OpenSpec.ofChange fnIsNameSpec)

/-- ITS FALSE NEIGHBOUR: 'it returns false'. Refute it at one input. -/
def fnIsNameWrong : ChangeSpec := { name := "fnIsName", fn := fun _ => fun
  | [d] => { results := [.lit (.bool false)], args := [d] }
  | _ => none }
def FnIsNameWrongFalsely : Prop := fnIsNameRow.holds Tryd.pinned (OpenSpec.ofChange fnIsNameWrong)

/-- 'laws.FnLabels': WHATEVER THE INPUT: true; the input reads as it did. -/
def fnLabelsSpec : ChangeSpec := { name := "fnLabels", fn := fun _ => fun
  | [d] => { results := [.lit (.bool true)], args := [d] }
  | _ => none }
def fnLabelsRow : OpenClaim := { program := "ytiilihafcdmccaadoor", sum := "8142274e7b192ada439b7bb2270ca00dd7be8353d3d1286dcc2ddb0e755efb4a", func := "domainrecords/laws.FnLabels", spec := "fnLabels", unfollowed := true, recurses := true, named := ["unicode/utf8.first", "unicode/utf8.acceptRanges"], apart := false, laid := [("unicode/utf8.acceptRanges", laid_unicode_utf8_acceptRanges), ("unicode/utf8.first", laid_unicode_utf8_first)] }
def FnLabelsSaid : Prop := fnLabelsRow.holds Tryd.pinned (OpenSpec.ofChange fnLabelsSpec)

/-- ITS FALSE NEIGHBOUR: 'it returns false'. Refute it at one input. -/
def fnLabelsWrong : ChangeSpec := { name := "fnLabels", fn := fun _ => fun
  | [d] => { results := [.lit (.bool false)], args := [d] }
  | _ => none }
def FnLabelsWrongFalsely : Prop := fnLabelsRow.holds Tryd.pinned (OpenSpec.ofChange fnLabelsWrong)

/-- 'laws.FnCanonical': WHATEVER THE INPUT: true; the input reads as it did. -/
def fnCanonicalSpec : ChangeSpec := { name := "fnCanonical", fn := fun _ => fun
  | [d] => { results := [.lit (.bool true)], args := [d] }
  | _ => none }
def fnCanonicalRow : OpenClaim := { program := "ytiilihafcdmccaadoor", sum := "8142274e7b192ada439b7bb2270ca00dd7be8353d3d1286dcc2ddb0e755efb4a", func := "domainrecords/laws.FnCanonical", spec := "fnCanonical", inPlace := ["internal/abi.NoEscape", "internal/bytealg.MakeNoZero"], unfollowed := true, recurses := true, named := ["unicode/utf8.first", "unicode/utf8.acceptRanges"], apart := false, laid := [("unicode/utf8.acceptRanges", laid_unicode_utf8_acceptRanges), ("unicode/utf8.first", laid_unicode_utf8_first)] }
def FnCanonicalSaid : Prop := fnCanonicalRow.holds Tryd.pinned (OpenSpec.ofChange fnCanonicalSpec)

/-- ITS FALSE NEIGHBOUR: 'it returns false'. Refute it at one input. -/
def fnCanonicalWrong : ChangeSpec := { name := "fnCanonical", fn := fun _ => fun
  | [d] => { results := [.lit (.bool false)], args := [d] }
  | _ => none }
def FnCanonicalWrongFalsely : Prop := fnCanonicalRow.holds Tryd.pinned (OpenSpec.ofChange fnCanonicalWrong)

/-- 'laws.FnNoRoom': WHATEVER THE INPUT: true; the input reads as it did. -/
def fnNoRoomSpec : ChangeSpec := { name := "fnNoRoom", fn := fun _ => fun
  | [d1, d2, d3] => { results := [.lit (.bool true)], args := [d1, d2, d3] }
  | _ => none }
def fnNoRoomRow : OpenClaim := { program := "ytiilihafcdmccaadoor", sum := "8142274e7b192ada439b7bb2270ca00dd7be8353d3d1286dcc2ddb0e755efb4a", func := "domainrecords/laws.FnNoRoom", spec := "fnNoRoom", unfollowed := true, recurses := true, named := ["domainrecords/pub/dns.ErrFqdn", "domainrecords/pub/dns.ErrBuf", "domainrecords/pub/dns.ErrRdata", "encoding/binary.BigEndian", "unicode/utf8.first", "unicode/utf8.acceptRanges"], apart := false, laid := [("unicode/utf8.acceptRanges", laid_unicode_utf8_acceptRanges), ("domainrecords/pub/dns.ErrBuf", laid_domainrecords_pub_dns_ErrBuf), ("domainrecords/pub/dns.ErrFqdn", laid_domainrecords_pub_dns_ErrFqdn), ("domainrecords/pub/dns.ErrRdata", laid_domainrecords_pub_dns_ErrRdata), ("unicode/utf8.first", laid_unicode_utf8_first)] }
def FnNoRoomSaid : Prop := fnNoRoomRow.holds Tryd.pinned (OpenSpec.ofChange fnNoRoomSpec)

/-- ITS FALSE NEIGHBOUR: 'it returns false'. Refute it at one input. -/
def fnNoRoomWrong : ChangeSpec := { name := "fnNoRoom", fn := fun _ => fun
  | [d1, d2, d3] => { results := [.lit (.bool false)], args := [d1, d2, d3] }
  | _ => none }
def FnNoRoomWrongFalsely : Prop := fnNoRoomRow.holds Tryd.pinned (OpenSpec.ofChange fnNoRoomWrong)

/-- 'laws.FnPackName': WHATEVER THE INPUT: true; the input reads as it did. -/
def fnPackNameSpec : ChangeSpec := { name := "fnPackName", fn := fun _ => fun
  | [d1, d2] => { results := [.lit (.bool true)], args := [d1, d2] }
  | _ => none }
def fnPackNameRow : OpenClaim := { program := "ytiilihafcdmccaadoor", sum := "8142274e7b192ada439b7bb2270ca00dd7be8353d3d1286dcc2ddb0e755efb4a", func := "domainrecords/laws.FnPackName", spec := "fnPackName", unfollowed := true, recurses := true, named := ["domainrecords/pub/dns.ErrFqdn", "domainrecords/pub/dns.ErrBuf", "domainrecords/pub/dns.ErrRdata", "encoding/binary.BigEndian", "unicode/utf8.first", "unicode/utf8.acceptRanges"], apart := false, laid := [("unicode/utf8.acceptRanges", laid_unicode_utf8_acceptRanges), ("domainrecords/pub/dns.ErrBuf", laid_domainrecords_pub_dns_ErrBuf), ("domainrecords/pub/dns.ErrFqdn", laid_domainrecords_pub_dns_ErrFqdn), ("domainrecords/pub/dns.ErrRdata", laid_domainrecords_pub_dns_ErrRdata), ("unicode/utf8.first", laid_unicode_utf8_first)] }
def FnPackNameSaid : Prop := fnPackNameRow.holds Tryd.pinned (OpenSpec.ofChange fnPackNameSpec)

/-- ITS FALSE NEIGHBOUR: 'it returns false'. Refute it at one input. -/
def fnPackNameWrong : ChangeSpec := { name := "fnPackName", fn := fun _ => fun
  | [d1, d2] => { results := [.lit (.bool false)], args := [d1, d2] }
  | _ => none }
def FnPackNameWrongFalsely : Prop := fnPackNameRow.holds Tryd.pinned (OpenSpec.ofChange fnPackNameWrong)

/-- 'laws.FnTypes': WHATEVER THE INPUT: true; the input reads as it did. -/
def fnTypesSpec : ChangeSpec := { name := "fnTypes", fn := fun _ => fun
  | [d] => { results := [.lit (.bool true)], args := [d] }
  | _ => none }
def fnTypesRow : OpenClaim := { program := "ytiilihafcdmccaadoor", sum := "8142274e7b192ada439b7bb2270ca00dd7be8353d3d1286dcc2ddb0e755efb4a", func := "domainrecords/laws.FnTypes", spec := "fnTypes", named := ["domainrecords/pub/dns.TypeToString", "internal/strconv.uint64pow10", "math/bits.deBruijn32tab", "math/bits.deBruijn64tab"], apart := false, laid := [("math/bits.deBruijn32tab", laid_math_bits_deBruijn32tab), ("math/bits.deBruijn64tab", laid_math_bits_deBruijn64tab), ("internal/strconv.uint64pow10", laid_internal_strconv_uint64pow10), ("domainrecords/pub/dns.TypeToString", laid_domainrecords_pub_dns_TypeToString)] }
def FnTypesSaid : Prop := fnTypesRow.holds Tryd.pinned (OpenSpec.ofChange fnTypesSpec)

/-- ITS FALSE NEIGHBOUR: 'it returns false'. Refute it at one input. -/
def fnTypesWrong : ChangeSpec := { name := "fnTypes", fn := fun _ => fun
  | [d] => { results := [.lit (.bool false)], args := [d] }
  | _ => none }
def FnTypesWrongFalsely : Prop := fnTypesRow.holds Tryd.pinned (OpenSpec.ofChange fnTypesWrong)

/-- 'laws.FnNameComesBack': WHATEVER THE INPUT: true; the input reads as it did. -/
def fnNameComesBackSpec : ChangeSpec := { name := "fnNameComesBack", fn := fun _ => fun
  | [d1, d2] => { results := [.lit (.bool true)], args := [d1, d2] }
  | _ => none }
def fnNameComesBackRow : OpenClaim := { program := "ytiilihafcdmccaadoor", sum := "8142274e7b192ada439b7bb2270ca00dd7be8353d3d1286dcc2ddb0e755efb4a", func := "domainrecords/laws.FnNameComesBack", spec := "fnNameComesBack", unfollowed := true, recurses := true, named := ["domainrecords/pub/dns.ErrFqdn", "domainrecords/pub/dns.ErrBuf", "domainrecords/pub/dns.ErrRdata", "encoding/binary.BigEndian", "unicode/utf8.first", "unicode/utf8.acceptRanges", "domainrecords/pub/dns.ErrLongDomain"], apart := false, laid := [("unicode/utf8.acceptRanges", laid_unicode_utf8_acceptRanges), ("domainrecords/pub/dns.ErrBuf", laid_domainrecords_pub_dns_ErrBuf), ("domainrecords/pub/dns.ErrFqdn", laid_domainrecords_pub_dns_ErrFqdn), ("domainrecords/pub/dns.ErrLongDomain", laid_domainrecords_pub_dns_ErrLongDomain), ("domainrecords/pub/dns.ErrRdata", laid_domainrecords_pub_dns_ErrRdata), ("unicode/utf8.first", laid_unicode_utf8_first)] }
def FnNameComesBackSaid : Prop := fnNameComesBackRow.holds Tryd.pinned (OpenSpec.ofChange fnNameComesBackSpec)

/-- ITS FALSE NEIGHBOUR: 'it returns false'. Refute it at one input. -/
def fnNameComesBackWrong : ChangeSpec := { name := "fnNameComesBack", fn := fun _ => fun
  | [d1, d2] => { results := [.lit (.bool false)], args := [d1, d2] }
  | _ => none }
def FnNameComesBackWrongFalsely : Prop := fnNameComesBackRow.holds Tryd.pinned (OpenSpec.ofChange fnNameComesBackWrong)

/-- 'laws.FnHash': WHATEVER THE INPUT: true; the input reads as it did. -/
def fnHashSpec : ChangeSpec := { name := "fnHash", fn := fun _ => fun
  | [d1, d2, d3] => { results := [.lit (.bool true)], args := [d1, d2, d3] }
  | _ => none }
def fnHashRow : OpenClaim := { program := "ytiilihafcdmccaadoor", sum := "8142274e7b192ada439b7bb2270ca00dd7be8353d3d1286dcc2ddb0e755efb4a", func := "domainrecords/laws.FnHash", spec := "fnHash", inPlace := ["internal/abi.NoEscape", "internal/bytealg.MakeNoZero"], unfollowed := true, recurses := true, named := ["encoding/hex.ErrLength", "unicode/utf8.first", "unicode/utf8.acceptRanges", "unicode.CaseRanges", "domainrecords/pub/dns.ErrFqdn", "domainrecords/pub/dns.ErrBuf", "domainrecords/pub/dns.ErrRdata", "encoding/binary.BigEndian"], apart := false, laid := [("unicode/utf8.acceptRanges", laid_unicode_utf8_acceptRanges), ("encoding/hex.ErrLength", laid_encoding_hex_ErrLength), ("domainrecords/pub/dns.ErrBuf", laid_domainrecords_pub_dns_ErrBuf), ("domainrecords/pub/dns.ErrFqdn", laid_domainrecords_pub_dns_ErrFqdn), ("domainrecords/pub/dns.ErrRdata", laid_domainrecords_pub_dns_ErrRdata), ("unicode.CaseRanges", laid_unicode_CaseRanges), ("unicode/utf8.first", laid_unicode_utf8_first)] }
def FnHashSaid : Prop := fnHashRow.holds Tryd.pinned (OpenSpec.ofChange fnHashSpec)

/-- ITS FALSE NEIGHBOUR: 'it returns false'. Refute it at one input. -/
def fnHashWrong : ChangeSpec := { name := "fnHash", fn := fun _ => fun
  | [d1, d2, d3] => { results := [.lit (.bool false)], args := [d1, d2, d3] }
  | _ => none }
def FnHashWrongFalsely : Prop := fnHashRow.holds Tryd.pinned (OpenSpec.ofChange fnHashWrong)

/-- 'laws.FnReverse': WHATEVER THE INPUT: true; the input reads as it did. -/
def fnReverseSpec : ChangeSpec := { name := "fnReverse", fn := fun _ => fun
  | [d1, d2] => { results := [.lit (.bool true)], args := [d1, d2] }
  | _ => none }
def fnReverseRow : OpenClaim := { program := "ytiilihafcdmccaadoor", sum := "8142274e7b192ada439b7bb2270ca00dd7be8353d3d1286dcc2ddb0e755efb4a", func := "domainrecords/laws.FnReverse", spec := "fnReverse", inPlace := ["internal/bytealg.IndexByteString", "unique.Make[net/netip.addrDetail]"], named := ["net/netip.z4", "net/netip.z6noz", "net/netip.z0", "internal/strconv.uint64pow10", "math/bits.deBruijn32tab", "math/bits.deBruijn64tab"], apart := false, laid := [("math/bits.deBruijn32tab", laid_math_bits_deBruijn32tab), ("math/bits.deBruijn64tab", laid_math_bits_deBruijn64tab), ("internal/strconv.uint64pow10", laid_internal_strconv_uint64pow10), ("net/netip.z4", laid_net_netip_z4), ("net/netip.z6noz", laid_net_netip_z6noz), ("net/netip.z0", laid_net_netip_z0)] }
def FnReverseSaid : Prop := fnReverseRow.holds Tryd.pinned (OpenSpec.ofChange fnReverseSpec)

/-- ITS FALSE NEIGHBOUR: 'it returns false'. Refute it at one input. -/
def fnReverseWrong : ChangeSpec := { name := "fnReverse", fn := fun _ => fun
  | [d1, d2] => { results := [.lit (.bool false)], args := [d1, d2] }
  | _ => none }
def FnReverseWrongFalsely : Prop := fnReverseRow.holds Tryd.pinned (OpenSpec.ofChange fnReverseWrong)

/- THE SECOND FORM. 'bulk': how many values and letters a reading holds, each counted each time it is reached (what is shared counts as often as it is met; a slice's spare places count too). A statement '..UptoSaid' is the law's where the arguments, and the package variables that the reading takes, are together of bulk at most 1048576: NARROWER than '..Said'. Prove '..Said' where nothing that the law and all that it calls make is longer than what came in: it says more and counts as full. Else prove '..UptoSaid'. A law counts once. -/
mutual
def uptoBulk {H : Type} : DataW H → Nat
  | .lit (.string bytes) => bytes.length + 1
  | .lit _ => 1
  | .nil => 1
  | .ptr d => uptoBulk d + 1
  | .slice elems spare => uptoBulkAll elems + uptoBulkAll spare + 1
  | .agg parts => uptoBulkAll parts + 1
  | .iface _ d => uptoBulk d + 1
  | .map entries => uptoBulkEntries entries + 1
  | .held _ => 1
def uptoBulkAll {H : Type} : List (DataW H) → Nat
  | [] => 0
  | d :: r => uptoBulk d + uptoBulkAll r
def uptoBulkEntries {H : Type} : List (Lit × DataW H) → Nat
  | [] => 0
  | x :: r => uptoBulkEntry x + uptoBulkEntries r
def uptoBulkEntry {H : Type} : Lit × DataW H → Nat
  | (.string bytes, d) => bytes.length + uptoBulk d + 1
  | (_, d) => uptoBulk d + 1
 end
def uptoSmall : (H : Type) → List (DataW H) → Bool := fun _ ds => decide (uptoBulkAll ds ≤ 1048576)
def OpenSpec.upto (s : _root_.Go.ChangeSpec) : _root_.Go.OpenSpec := { _root_.Go.OpenSpec.ofChange s with cond := some uptoSmall }

/-- 'laws.FnUnpackName', WHERE WHAT IT READS IS OF BULK AT MOST 1048576: true; the input reads as it did. -/
def fnUnpackNameUptoRow : OpenClaim := { program := "ytiilihafcdmccaadoor", sum := "8142274e7b192ada439b7bb2270ca00dd7be8353d3d1286dcc2ddb0e755efb4a", func := "domainrecords/laws.FnUnpackName", spec := "fnUnpackName", named := ["domainrecords/pub/dns.ErrBuf", "domainrecords/pub/dns.ErrLongDomain", "domainrecords/pub/dns.ErrRdata"], apart := false, laid := [("domainrecords/pub/dns.ErrBuf", laid_domainrecords_pub_dns_ErrBuf), ("domainrecords/pub/dns.ErrLongDomain", laid_domainrecords_pub_dns_ErrLongDomain), ("domainrecords/pub/dns.ErrRdata", laid_domainrecords_pub_dns_ErrRdata)], narrowed := true }
def FnUnpackNameUptoSaid : Prop := fnUnpackNameUptoRow.holds Tryd.pinned (OpenSpec.upto fnUnpackNameSpec)

/-- 'laws.FnFqdn', WHERE WHAT IT READS IS OF BULK AT MOST 1048576: true; the input reads as it did. -/
def fnFqdnUptoRow : OpenClaim := { program := "ytiilihafcdmccaadoor", sum := "8142274e7b192ada439b7bb2270ca00dd7be8353d3d1286dcc2ddb0e755efb4a", func := "domainrecords/laws.FnFqdn", spec := "fnFqdn", unfollowed := true, recurses := true, named := ["unicode/utf8.first", "unicode/utf8.acceptRanges"], apart := false, laid := [("unicode/utf8.acceptRanges", laid_unicode_utf8_acceptRanges), ("unicode/utf8.first", laid_unicode_utf8_first)], narrowed := true }
def FnFqdnUptoSaid : Prop := fnFqdnUptoRow.holds Tryd.pinned (OpenSpec.upto fnFqdnSpec)

/-- 'laws.FnIsName', WHERE WHAT IT READS IS OF BULK AT MOST 1048576: true; the input reads as it did. -/
def fnIsNameUptoRow : OpenClaim := { program := "ytiilihafcdmccaadoor", sum := "8142274e7b192ada439b7bb2270ca00dd7be8353d3d1286dcc2ddb0e755efb4a", func := "domainrecords/laws.FnIsName", spec := "fnIsName", unfollowed := true, recurses := true, named := ["unicode/utf8.first", "unicode/utf8.acceptRanges"], apart := false, laid := [("unicode/utf8.acceptRanges", laid_unicode_utf8_acceptRanges), ("unicode/utf8.first", laid_unicode_utf8_first)], narrowed := true }
def FnIsNameUptoSaid : Prop := fnIsNameUptoRow.holds Tryd.pinned (OpenSpec.upto fnIsNameSpec)

/-- 'laws.FnLabels', WHERE WHAT IT READS IS OF BULK AT MOST 1048576: true; the input reads as it did. -/
def fnLabelsUptoRow : OpenClaim := { program := "ytiilihafcdmccaadoor", sum := "8142274e7b192ada439b7bb2270ca00dd7be8353d3d1286dcc2ddb0e755efb4a", func := "domainrecords/laws.FnLabels", spec := "fnLabels", unfollowed := true, recurses := true, named := ["unicode/utf8.first", "unicode/utf8.acceptRanges"], apart := false, laid := [("unicode/utf8.acceptRanges", laid_unicode_utf8_acceptRanges), ("unicode/utf8.first", laid_unicode_utf8_first)], narrowed := true }
def FnLabelsUptoSaid : Prop := fnLabelsUptoRow.holds Tryd.pinned (OpenSpec.upto fnLabelsSpec)

/-- 'laws.FnCanonical', WHERE WHAT IT READS IS OF BULK AT MOST 1048576: true; the input reads as it did. -/
def fnCanonicalUptoRow : OpenClaim := { program := "ytiilihafcdmccaadoor", sum := "8142274e7b192ada439b7bb2270ca00dd7be8353d3d1286dcc2ddb0e755efb4a", func := "domainrecords/laws.FnCanonical", spec := "fnCanonical", inPlace := ["internal/abi.NoEscape", "internal/bytealg.MakeNoZero"], unfollowed := true, recurses := true, named := ["unicode/utf8.first", "unicode/utf8.acceptRanges"], apart := false, laid := [("unicode/utf8.acceptRanges", laid_unicode_utf8_acceptRanges), ("unicode/utf8.first", laid_unicode_utf8_first)], narrowed := true }
def FnCanonicalUptoSaid : Prop := fnCanonicalUptoRow.holds Tryd.pinned (OpenSpec.upto fnCanonicalSpec)

/-- 'laws.FnNoRoom', WHERE WHAT IT READS IS OF BULK AT MOST 1048576: true; the input reads as it did. -/
def fnNoRoomUptoRow : OpenClaim := { program := "ytiilihafcdmccaadoor", sum := "8142274e7b192ada439b7bb2270ca00dd7be8353d3d1286dcc2ddb0e755efb4a", func := "domainrecords/laws.FnNoRoom", spec := "fnNoRoom", unfollowed := true, recurses := true, named := ["domainrecords/pub/dns.ErrFqdn", "domainrecords/pub/dns.ErrBuf", "domainrecords/pub/dns.ErrRdata", "encoding/binary.BigEndian", "unicode/utf8.first", "unicode/utf8.acceptRanges"], apart := false, laid := [("unicode/utf8.acceptRanges", laid_unicode_utf8_acceptRanges), ("domainrecords/pub/dns.ErrBuf", laid_domainrecords_pub_dns_ErrBuf), ("domainrecords/pub/dns.ErrFqdn", laid_domainrecords_pub_dns_ErrFqdn), ("domainrecords/pub/dns.ErrRdata", laid_domainrecords_pub_dns_ErrRdata), ("unicode/utf8.first", laid_unicode_utf8_first)], narrowed := true }
def FnNoRoomUptoSaid : Prop := fnNoRoomUptoRow.holds Tryd.pinned (OpenSpec.upto fnNoRoomSpec)

/-- 'laws.FnPackName', WHERE WHAT IT READS IS OF BULK AT MOST 1048576: true; the input reads as it did. -/
def fnPackNameUptoRow : OpenClaim := { program := "ytiilihafcdmccaadoor", sum := "8142274e7b192ada439b7bb2270ca00dd7be8353d3d1286dcc2ddb0e755efb4a", func := "domainrecords/laws.FnPackName", spec := "fnPackName", unfollowed := true, recurses := true, named := ["domainrecords/pub/dns.ErrFqdn", "domainrecords/pub/dns.ErrBuf", "domainrecords/pub/dns.ErrRdata", "encoding/binary.BigEndian", "unicode/utf8.first", "unicode/utf8.acceptRanges"], apart := false, laid := [("unicode/utf8.acceptRanges", laid_unicode_utf8_acceptRanges), ("domainrecords/pub/dns.ErrBuf", laid_domainrecords_pub_dns_ErrBuf), ("domainrecords/pub/dns.ErrFqdn", laid_domainrecords_pub_dns_ErrFqdn), ("domainrecords/pub/dns.ErrRdata", laid_domainrecords_pub_dns_ErrRdata), ("unicode/utf8.first", laid_unicode_utf8_first)], narrowed := true }
def FnPackNameUptoSaid : Prop := fnPackNameUptoRow.holds Tryd.pinned (OpenSpec.upto fnPackNameSpec)

/-- 'laws.FnTypes', WHERE WHAT IT READS IS OF BULK AT MOST 1048576: true; the input reads as it did. -/
def fnTypesUptoRow : OpenClaim := { program := "ytiilihafcdmccaadoor", sum := "8142274e7b192ada439b7bb2270ca00dd7be8353d3d1286dcc2ddb0e755efb4a", func := "domainrecords/laws.FnTypes", spec := "fnTypes", named := ["domainrecords/pub/dns.TypeToString", "internal/strconv.uint64pow10", "math/bits.deBruijn32tab", "math/bits.deBruijn64tab"], apart := false, laid := [("math/bits.deBruijn32tab", laid_math_bits_deBruijn32tab), ("math/bits.deBruijn64tab", laid_math_bits_deBruijn64tab), ("internal/strconv.uint64pow10", laid_internal_strconv_uint64pow10), ("domainrecords/pub/dns.TypeToString", laid_domainrecords_pub_dns_TypeToString)], narrowed := true }
def FnTypesUptoSaid : Prop := fnTypesUptoRow.holds Tryd.pinned (OpenSpec.upto fnTypesSpec)

/-- 'laws.FnNameComesBack', WHERE WHAT IT READS IS OF BULK AT MOST 1048576: true; the input reads as it did. -/
def fnNameComesBackUptoRow : OpenClaim := { program := "ytiilihafcdmccaadoor", sum := "8142274e7b192ada439b7bb2270ca00dd7be8353d3d1286dcc2ddb0e755efb4a", func := "domainrecords/laws.FnNameComesBack", spec := "fnNameComesBack", unfollowed := true, recurses := true, named := ["domainrecords/pub/dns.ErrFqdn", "domainrecords/pub/dns.ErrBuf", "domainrecords/pub/dns.ErrRdata", "encoding/binary.BigEndian", "unicode/utf8.first", "unicode/utf8.acceptRanges", "domainrecords/pub/dns.ErrLongDomain"], apart := false, laid := [("unicode/utf8.acceptRanges", laid_unicode_utf8_acceptRanges), ("domainrecords/pub/dns.ErrBuf", laid_domainrecords_pub_dns_ErrBuf), ("domainrecords/pub/dns.ErrFqdn", laid_domainrecords_pub_dns_ErrFqdn), ("domainrecords/pub/dns.ErrLongDomain", laid_domainrecords_pub_dns_ErrLongDomain), ("domainrecords/pub/dns.ErrRdata", laid_domainrecords_pub_dns_ErrRdata), ("unicode/utf8.first", laid_unicode_utf8_first)], narrowed := true }
def FnNameComesBackUptoSaid : Prop := fnNameComesBackUptoRow.holds Tryd.pinned (OpenSpec.upto fnNameComesBackSpec)

/-- 'laws.FnHash', WHERE WHAT IT READS IS OF BULK AT MOST 1048576: true; the input reads as it did. -/
def fnHashUptoRow : OpenClaim := { program := "ytiilihafcdmccaadoor", sum := "8142274e7b192ada439b7bb2270ca00dd7be8353d3d1286dcc2ddb0e755efb4a", func := "domainrecords/laws.FnHash", spec := "fnHash", inPlace := ["internal/abi.NoEscape", "internal/bytealg.MakeNoZero"], unfollowed := true, recurses := true, named := ["encoding/hex.ErrLength", "unicode/utf8.first", "unicode/utf8.acceptRanges", "unicode.CaseRanges", "domainrecords/pub/dns.ErrFqdn", "domainrecords/pub/dns.ErrBuf", "domainrecords/pub/dns.ErrRdata", "encoding/binary.BigEndian"], apart := false, laid := [("unicode/utf8.acceptRanges", laid_unicode_utf8_acceptRanges), ("encoding/hex.ErrLength", laid_encoding_hex_ErrLength), ("domainrecords/pub/dns.ErrBuf", laid_domainrecords_pub_dns_ErrBuf), ("domainrecords/pub/dns.ErrFqdn", laid_domainrecords_pub_dns_ErrFqdn), ("domainrecords/pub/dns.ErrRdata", laid_domainrecords_pub_dns_ErrRdata), ("unicode.CaseRanges", laid_unicode_CaseRanges), ("unicode/utf8.first", laid_unicode_utf8_first)], narrowed := true }
def FnHashUptoSaid : Prop := fnHashUptoRow.holds Tryd.pinned (OpenSpec.upto fnHashSpec)

/-- 'laws.FnReverse', WHERE WHAT IT READS IS OF BULK AT MOST 1048576: true; the input reads as it did. -/
def fnReverseUptoRow : OpenClaim := { program := "ytiilihafcdmccaadoor", sum := "8142274e7b192ada439b7bb2270ca00dd7be8353d3d1286dcc2ddb0e755efb4a", func := "domainrecords/laws.FnReverse", spec := "fnReverse", inPlace := ["internal/bytealg.IndexByteString", "unique.Make[net/netip.addrDetail]"], named := ["net/netip.z4", "net/netip.z6noz", "net/netip.z0", "internal/strconv.uint64pow10", "math/bits.deBruijn32tab", "math/bits.deBruijn64tab"], apart := false, laid := [("math/bits.deBruijn32tab", laid_math_bits_deBruijn32tab), ("math/bits.deBruijn64tab", laid_math_bits_deBruijn64tab), ("internal/strconv.uint64pow10", laid_internal_strconv_uint64pow10), ("net/netip.z4", laid_net_netip_z4), ("net/netip.z6noz", laid_net_netip_z6noz), ("net/netip.z0", laid_net_netip_z0)], narrowed := true }
def FnReverseUptoSaid : Prop := fnReverseUptoRow.holds Tryd.pinned (OpenSpec.upto fnReverseSpec)

end Rows
end Go.Proofs.YtiilihafcdmccaaDoor
